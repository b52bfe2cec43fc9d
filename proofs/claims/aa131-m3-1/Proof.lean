import JvmDerived
import JvmDerived.Pilot.@@N@@Statement
import JvmDerived.Pilot.@@N@@Code
set_option linter.unusedVariables false
set_option linter.unusedSimpArgs false
namespace Jvm.RoadKit
open Sem ClassFile Op Lib Jvm.Stand Jvm.Free Jvm.LawKit
section New
variable {p : Program} {l : Launch} {e : Env} {R : Room} {s : State} {m : MethodId} {args : Array Value} {below : List Frame} {meth : Method} {c : Code} {T : State} {locs : List Loc} {cells slots : Nat}
theorem retI (X : Stand p l e R s m args below meth c T locs cells slots) (hx : p.tables.exec = Jvm.exec) {pc : Nat} {Ls : Array Slot} {z : Int32} {rest : List Value} (hret : meth.sig.returnType = some .int) (hd : decode c.code pc = .ok (.ireturn, 1)) {fs : List Frame}
    (hl : ∀ (f : JFrame) (acts : List Action), f.method = m → f.locked = none → f.entered = [] → (doReturn e (T.setTop f) acts (some (.int z))).1 = T.setFrames fs) : Steps p.tables e below (T.setTop (mkF m pc Ls (.int z :: rest))) (T.setFrames fs) := by
  have hm' : T.vm.method? m = some meth := X.method'
  have hn : narrow .int (.int z) = .int z := rfl
  show Steps p.tables e below (T.setTop { method := m, pc := pc, locals := Ls, stack := _ :: rest, locked := none }) _
  jvm_step X.here [X.here.top, hx, hd, hm', hret, hn]
  first | (intro acts; rw [hl _ acts rfl rfl rfl]) | rw [hl _ _ rfl rfl rfl]
  exact Steps.refl _
end New
end Jvm.RoadKit
namespace Jvm.Pilot.@@N@@
open Jvm Jvm.ClassFile Sem Op Lib Jvm.Free Jvm.Stand Jvm.LawKit Jvm.RoadKit Bundle Jvm.Pilot.@@N@@.Jvm.D
section Own
variable {p : Program} {l : Launch} {e : Env} {R : Room} {s : State} {m : MethodId} {args : Array Value} {below : List Frame} {meth : Method} {c : Code} {T : State} {locs : List Loc} {cells slots : Nat} {Z : State} {a0 : Array Value} {h : Heap} {Q : Option Value → Heap → List Loc → Prop} {C N : Nat}
/-- from the state U the run comes to this invocation's end, which returns, and Q holds of the value, the heap and the written places -/
def zq_Go (p : Program) (e : Env) (below : List Frame) (s : State) (Q : Option Value → Heap → List Loc → Prop) (C N : Nat) (U : State) : Prop :=
  ∃ t o, Steps p.tables e below U t ∧ t.status = .running ∧ Ended t below o ∧ ∃ v L, o = .returned v ∧ Q v t.heap L ∧ FrameEnd s o t L C N
theorem zq_go {A B : State} (k : ∀ t, Steps p.tables e below A t → Steps p.tables e below B t) (h : zq_Go p e below s Q C N A) : zq_Go p e below s Q C N B := by
  obtain ⟨t, o, h1, r⟩ := h
  exact ⟨t, o, k t h1, r⟩
theorem zq_out (X : Stand p l e R s m args below meth c T locs cells slots) (hl : meth.locks = false) {v : Option Value} (hv : meth.sig.returnType = none → v = none) {A : State}
    (k : ∀ fs, (∀ (f : JFrame) (acts : List Action), f.method = m → f.locked = none → f.entered = [] → (doReturn e (T.setTop f) acts v).1 = T.setFrames fs) → Steps p.tables e below A (T.setFrames fs)) (hq : Q v T.heap locs) (hc : cells ≤ C) (hs : slots ≤ N) : zq_Go p e below s Q C N A := by
  obtain ⟨fs, hr, hrun, hended, hW, hsame⟩ := X.leave (v := v) hv hl
  exact ⟨_, _, k fs hr, hrun, hended, v, locs, rfl, hq, ⟨_, rfl⟩, hW, hsame.mono hc hs⟩
theorem zq_retN (X : Stand p l e R s m args below meth c T locs cells slots) (hx : p.tables.exec = Jvm.exec) (hl : meth.locks = false) {pc : Nat} {Ls : Array Slot} {z : Int32} {t : FieldType} {rest : List Value} (hret : meth.sig.returnType = some t) (ht : t = .boolean ∨ t = .byte ∨ t = .char ∨ t = .short)
    (hd : decode c.code pc = .ok (.ireturn, 1)) (hq : Q (some (.int (nar t z))) T.heap locs) (hc : cells ≤ C) (hs : slots ≤ N) : zq_Go p e below s Q C N (T.setTop (mkF m pc Ls (.int z :: rest))) :=
  zq_out X hl (fun h => by rw [hret] at h; cases h) (fun fs hr => retN X hx hret ht hd hr) hq hc hs
theorem zq_retI (X : Stand p l e R s m args below meth c T locs cells slots) (hx : p.tables.exec = Jvm.exec) (hl : meth.locks = false) {pc : Nat} {Ls : Array Slot} {z : Int32} {rest : List Value} (hret : meth.sig.returnType = some .int)
    (hd : decode c.code pc = .ok (.ireturn, 1)) (hq : Q (some (.int z)) T.heap locs) (hc : cells ≤ C) (hs : slots ≤ N) : zq_Go p e below s Q C N (T.setTop (mkF m pc Ls (.int z :: rest))) :=
  zq_out X hl (fun h => by rw [hret] at h; cases h) (fun fs hr => retI X hx hret hd hr) hq hc hs
theorem zq_retJ (X : Stand p l e R s m args below meth c T locs cells slots) (hx : p.tables.exec = Jvm.exec) (hl : meth.locks = false) {pc : Nat} {Ls : Array Slot} {z : Int64} (hret : meth.sig.returnType = some .long)
    (hd : decode c.code pc = .ok (.lreturn, 1)) (hq : Q (some (.long z)) T.heap locs) (hc : cells ≤ C) (hs : slots ≤ N) : zq_Go p e below s Q C N (T.setTop (mkF m pc Ls [.long z])) :=
  zq_out X hl (fun h => by rw [hret] at h; cases h) (fun fs hr => X.lreturnOut hx hret hd hr) hq hc hs
theorem zq_retA (X : Stand p l e R s m args below meth c T locs cells slots) (hx : p.tables.exec = Jvm.exec) (hl : meth.locks = false) {pc : Nat} {Ls : Array Slot} {w : Value} {t : FieldType} (hw : w.isRef = true) (hret : meth.sig.returnType = some t) (ht : t.isReference = true)
    (hd : decode c.code pc = .ok (.areturn, 1)) (hq : Q (some w) T.heap locs) (hc : cells ≤ C) (hs : slots ≤ N) : zq_Go p e below s Q C N (T.setTop (mkF m pc Ls [w])) :=
  zq_out X hl (fun h => by rw [hret] at h; cases h) (fun fs hr => X.areturnOut hx hw hret ht hd hr) hq hc hs
theorem zq_ret0 (X : Stand p l e R s m args below meth c T locs cells slots) (hx : p.tables.exec = Jvm.exec) (hl : meth.locks = false) {pc : Nat} {Ls : Array Slot} (hret : meth.sig.returnType = none)
    (hd : decode c.code pc = .ok (.return_, 1)) (hq : Q none T.heap locs) (hc : cells ≤ C) (hs : slots ≤ N) : zq_Go p e below s Q C N (T.setTop (mkF m pc Ls [])) :=
  zq_out X hl (fun _ => rfl) (fun fs hr => X.returnOut hx hret hd hr) hq hc hs
/-- a method's contract, from the heap h0, for the arguments a -/
abbrev zq_Met (l : Launch) (Z : State) (y : MethodName) (bytes : ByteArray) (maxL : Nat) (ret : Option FieldType) (ws : List Jvm.Cond) (rm : Room) (a : Array Value) (h0 : Heap) (Q : Option Value → Heap → List Loc → Prop) : Prop :=
  MetFree l y (head1 (Jvm.Cond.code y bytes maxL ret :: ws) rm) (fun a' U => a' = a ∧ Z.Warmed39 U.vm ∧ U.heap = h0) (fun _ _ _ _ _ => True) (fun _ U o U' => ∃ v L, o = .returned v ∧ Q v U'.heap L ∧ FrameEnd U o U' L rm.cells rm.slots)
theorem zq_body {y : MethodName} {bytes : ByteArray} {maxL : Nat} {ret : Option FieldType} {ws : List Jvm.Cond} {rm : Room} {a : Array Value} {h0 : Heap} (hpl : plainFor y = true)
    (body : ∀ (p : Program) (e : Env) (s : State) (m : MethodId) (below : List Frame) (meth : Method) (c : Code) (s₁ : State), p.tables.exec = Jvm.exec → Z.Warmed39 s.vm → c.code = bytes → c.maxLocals = maxL → meth.sig.returnType = ret → meth.locks = false → s.vm.findClass y.cls = some m.cls → meth.name = y.name → Stand p l e rm s m a below meth c s₁ [] 0 0 → s₁.heap = h0 → zq_Go p e below s Q rm.cells rm.slots (s₁.setTop (entryFrame m a maxL))) :
    zq_Met l Z y bytes maxL ret ws rm a h0 Q := by
  refine MetFree.of_bodySF hpl hisR ?_
  intro p e s m args below meth c s₁ Bd hml0 hP hK
  obtain ⟨rfl, hZ, hh⟩ := hP
  exact body p e s m below meth c s₁ Bd.exec hZ Bd.bytes hml0 Bd.returns Bd.notSynchronized (findClass_of_methodNamed Bd.named) (name_of_methodNamed Bd.named Bd.method).1 (Stand.of_body Bd) (by rw [← hh, Bd.state]; rfl)
/-- a callee that leaves no trace and returns r -/
def zq_pure (r : Value) (h0 : Heap) : Option Value → Heap → List Loc → Prop := fun v h L => v = some r ∧ L = [] ∧ h = h0
theorem zq_callS (X : Stand p l e R s m args below meth c T locs cells slots) (hx : p.tables.exec = Jvm.exec) (hZ : Z.Warmed39 s.vm) {own : String} {index W : Nat} {y : MethodName} {bytes : ByteArray} {maxL : Nat} {ret : Option FieldType} {rm : Room} (hown : s.vm.findClass own = some m.cls)
    (w1 : (Cond.methodLink own index y).before a0 Z = true) (w2 : (Cond.static y).before a0 Z = true) (w3 : (Cond.initialized y.cls).before a0 Z = true) (w4 : (Cond.code y bytes maxL ret).before a0 Z = true) (hy : y.cls ≠ "java/lang/invoke/MethodHandle" ∧ y.cls ≠ "java/lang/invoke/VarHandle") {argsL rest : List Value}
    (hM : zq_Met l Z y bytes maxL ret [] rm argsL.toArray h Q) (eT : T.heap = h) (hf : rm.frames + 1 ≤ R.frames) (hl : W + (maxL + 11) + rm.locals ≤ R.locals) (hcells : cells + rm.cells ≤ R.cells) (hslots : slots + rm.slots ≤ R.slots)
    {g : JFrame} (hg : g.method = m) (hsize : g.locals.size = c.maxLocals) (hlen : ∀ sig, parseMethodDescriptor y.desc = some sig → argsL.length = sig.parameters.length) (hstack : g.stack = argsL.reverse ++ rest) (hW : 2 * g.monitorRoom + (rest.map fun v => v.category).sum ≤ W) (hdg : decode c.code g.pc = .ok (.invokestatic index, 3)) :
    ∃ (v : Option Value) (T' : State) (L : List Loc), Stand p l e R s m args below meth c T' (locs ++ L) (cells + rm.cells) (slots + rm.slots) ∧ Q v T'.heap L ∧ ∀ target, Steps p.tables e below (T'.setTop { g with pc := g.pc + 3, stack := v.toList ++ rest }) target → Steps p.tables e below (T.setTop g) target := by
  obtain ⟨v, vm₁, ⟨T', L', k', n'⟩, -, X', ⟨L, hQ, e1, e2, e3⟩, st⟩ := Jvm.LawKit.callS X hx (y := y) hown (mvT hZ w1) (mvT hZ w2) (mvT hZ w3) (mvT hZ w4) hy (backOf (W := W) hM hZ w4 w3 hf hl) hg hsize hlen hstack hW hdg (fun _ _ => ⟨rfl, eT, hcells, hslots⟩)
  dsimp only [Pt.U, Pt.locs, Pt.cells, Pt.slots] at X' hQ e1 e2 e3 st
  subst e1 e2 e3
  exact ⟨v, T', L, X', hQ, st⟩
theorem zq_callP (X : Stand p l e R s m args below meth c T locs cells slots) (hx : p.tables.exec = Jvm.exec) (hZ : Z.Warmed39 s.vm) {own : String} {index W : Nat} {y : MethodName} {bytes : ByteArray} {maxL : Nat} {ret : Option FieldType} {rm : Room} {r : Value} (hown : s.vm.findClass own = some m.cls)
    (w1 : (Cond.methodLink own index y).before a0 Z = true) (w2 : (Cond.static y).before a0 Z = true) (w3 : (Cond.initialized y.cls).before a0 Z = true) (w4 : (Cond.code y bytes maxL ret).before a0 Z = true) (hy : y.cls ≠ "java/lang/invoke/MethodHandle" ∧ y.cls ≠ "java/lang/invoke/VarHandle") {argsL rest : List Value}
    (hM : zq_Met l Z y bytes maxL ret [] rm argsL.toArray h (zq_pure r h)) (eT : T.heap = h) (hf : rm.frames + 1 ≤ R.frames) (hl : W + (maxL + 11) + rm.locals ≤ R.locals) (hcells : rm.cells = 0) (hslots : rm.slots = 0) (hC : cells ≤ R.cells) (hN : slots ≤ R.slots)
    {g : JFrame} (hg : g.method = m) (hsize : g.locals.size = c.maxLocals) (hlen : ∀ sig, parseMethodDescriptor y.desc = some sig → argsL.length = sig.parameters.length) (hstack : g.stack = argsL.reverse ++ rest) (hW : 2 * g.monitorRoom + (rest.map fun v => v.category).sum ≤ W) (hdg : decode c.code g.pc = .ok (.invokestatic index, 3)) :
    ∃ T' : State, Stand p l e R s m args below meth c T' locs cells slots ∧ T'.heap = h ∧ ∀ target, Steps p.tables e below (T'.setTop { g with pc := g.pc + 3, stack := r :: rest }) target → Steps p.tables e below (T.setTop g) target := by
  obtain ⟨v, T', L, X', ⟨rfl, rfl, q⟩, st⟩ := zq_callS X hx hZ hown w1 w2 w3 w4 hy hM eT hf hl (by rw [hcells]; exact hC) (by rw [hslots]; exact hN) hg hsize hlen hstack hW hdg
  rw [hcells, hslots, List.append_nil] at X'
  exact ⟨T', X', q, st⟩
/-- what the law's own contract says: it returns 1, and wrote to new cells alone -/
def zq_one (n0 : Nat) : Option Value → Heap → List Loc → Prop := fun v _ L => v = some (.int 1) ∧ Fr n0 L
theorem zq_callC (X : Stand p l e R s m args below meth c T locs cells slots) (hx : p.tables.exec = Jvm.exec) (hZ : Z.Warmed39 s.vm) {own : String} {index W : Nat} {y : MethodName} {bytes : ByteArray} {maxL : Nat} {rm : Room} (hy1 : y.name = "<init>") (hown : s.vm.findClass own = some m.cls)
    (w1 : (Cond.methodLink own index y).before a0 Z = true) (w2 : (Cond.instanceMethod y).before a0 Z = true) (w3 : (Cond.initialized y.cls).before a0 Z = true) (w4 : (Cond.code y bytes maxL none).before a0 Z = true) (hy : y.cls ≠ "java/lang/invoke/MethodHandle" ∧ y.cls ≠ "java/lang/invoke/VarHandle") {a : Addr} {argsL rest : List Value}
    (hM : zq_Met l Z y bytes maxL none [] rm (.ref a :: argsL).toArray h Q) (eT : T.heap = h) (hf : rm.frames + 1 ≤ R.frames) (hl : W + (maxL + 11) + rm.locals ≤ R.locals) (hcells : cells + rm.cells ≤ R.cells) (hslots : slots + rm.slots ≤ R.slots)
    {g : JFrame} (hg : g.method = m) (hsize : g.locals.size = c.maxLocals) (hlen : ∀ sig, parseMethodDescriptor y.desc = some sig → argsL.length = sig.parameters.length) (hstack : g.stack = argsL.reverse ++ .ref a :: rest) (hW : 2 * g.monitorRoom + (rest.map fun v => v.category).sum ≤ W) (hdg : decode c.code g.pc = .ok (.invokespecial index, 3)) :
    ∃ (v : Option Value) (T' : State) (L : List Loc), Stand p l e R s m args below meth c T' (locs ++ L) (cells + rm.cells) (slots + rm.slots) ∧ Q v T'.heap L ∧ ∀ target, Steps p.tables e below (T'.setTop { g with pc := g.pc + 3, stack := v.toList ++ rest }) target → Steps p.tables e below (T.setTop g) target := by
  obtain ⟨v, vm₁, ⟨T', L', k', n'⟩, -, X', ⟨L, hQ, e1, e2, e3⟩, st⟩ := X.specialBack hx (y := y) hy1 hown (mvT hZ w1) (mvT hZ w2) (mvT hZ w4) hy (backOf (W := W) hM hZ w4 w3 hf hl) hg hsize (Steps.refl _) hlen hstack hW hdg (fun _ _ => ⟨rfl, eT, hcells, hslots⟩)
  dsimp only [Pt.U, Pt.locs, Pt.cells, Pt.slots] at X' hQ e1 e2 e3 st
  subst e1 e2 e3
  exact ⟨v, T', L, X', hQ, fun t k => st.trans k⟩
theorem zq_callV (X : Stand p l e R s m args below meth c T locs cells slots) (hx : p.tables.exec = Jvm.exec) (hZ : Z.Warmed39 s.vm) {own : String} {index W : Nat} {y : MethodName} {bytes : ByteArray} {maxL : Nat} {ret : Option FieldType} {rm : Room} (hown : s.vm.findClass own = some m.cls)
    (w1 : (Cond.methodLink own index y).before a0 Z = true) (w2 : (Cond.declares y).before a0 Z = true) (w5 : (Cond.selects y.cls y y).before a0 Z = true) (w6 : (Cond.instanceMethod y).before a0 Z = true) (w3 : (Cond.initialized y.cls).before a0 Z = true) (w4 : (Cond.code y bytes maxL ret).before a0 Z = true) (hy : y.cls ≠ "java/lang/invoke/MethodHandle" ∧ y.cls ≠ "java/lang/invoke/VarHandle") {a : Addr} {argsL rest : List Value}
    (hM : zq_Met l Z y bytes maxL ret [] rm (.ref a :: argsL).toArray h Q) (eT : T.heap = h) (E : Exa Z h a y.cls) (hf : rm.frames + 1 ≤ R.frames) (hl : W + (maxL + 11) + rm.locals ≤ R.locals) (hcells : cells + rm.cells ≤ R.cells) (hslots : slots + rm.slots ≤ R.slots)
    {g : JFrame} (hg : g.method = m) (hsize : g.locals.size = c.maxLocals) (hlen : ∀ sig, parseMethodDescriptor y.desc = some sig → argsL.length = sig.parameters.length) (hstack : g.stack = argsL.reverse ++ .ref a :: rest) (hW : 2 * g.monitorRoom + (rest.map fun v => v.category).sum ≤ W) (hdg : decode c.code g.pc = .ok (.invokevirtual index, 3)) :
    ∃ (v : Option Value) (T' : State) (L : List Loc), Stand p l e R s m args below meth c T' (locs ++ L) (cells + rm.cells) (slots + rm.slots) ∧ Q v T'.heap L ∧ ∀ target, Steps p.tables e below (T'.setTop { g with pc := g.pc + 3, stack := v.toList ++ rest }) target → Steps p.tables e below (T.setTop g) target := by
  obtain ⟨cq, kq, q1, q2, q3⟩ := isOf hZ eT E
  obtain ⟨v, vm₁, ⟨T', L', k', n'⟩, -, X', ⟨L, hQ, e1, e2, e3⟩, st⟩ := X.virtualBack hx (y := y) (z := y) hown (mvT hZ w1) (mvT hZ w2) (notFace_of_selects (args := #[]) (mvT hZ w5)) (mvT hZ w5) (mvT hZ w6) hy (backOf (W := W) hM hZ w4 w3 hf hl) q1 q3 hg hsize (Steps.refl _) hlen hstack hW hdg (fun _ _ => ⟨rfl, eT, hcells, hslots⟩)
  dsimp only [Pt.U, Pt.locs, Pt.cells, Pt.slots] at X' hQ e1 e2 e3 st
  subst e1 e2 e3
  exact ⟨v, T', L, X', hQ, fun t k => st.trans k⟩
theorem zq_callVP (X : Stand p l e R s m args below meth c T locs cells slots) (hx : p.tables.exec = Jvm.exec) (hZ : Z.Warmed39 s.vm) {own : String} {index W : Nat} {y : MethodName} {bytes : ByteArray} {maxL : Nat} {ret : Option FieldType} {rm : Room} {r : Value} (hown : s.vm.findClass own = some m.cls)
    (w1 : (Cond.methodLink own index y).before a0 Z = true) (w2 : (Cond.declares y).before a0 Z = true) (w5 : (Cond.selects y.cls y y).before a0 Z = true) (w6 : (Cond.instanceMethod y).before a0 Z = true) (w3 : (Cond.initialized y.cls).before a0 Z = true) (w4 : (Cond.code y bytes maxL ret).before a0 Z = true) (hy : y.cls ≠ "java/lang/invoke/MethodHandle" ∧ y.cls ≠ "java/lang/invoke/VarHandle") {a : Addr} {argsL rest : List Value}
    (hM : zq_Met l Z y bytes maxL ret [] rm (.ref a :: argsL).toArray h (zq_pure r h)) (eT : T.heap = h) (E : Exa Z h a y.cls) (hf : rm.frames + 1 ≤ R.frames) (hl : W + (maxL + 11) + rm.locals ≤ R.locals) (hcells : rm.cells = 0) (hslots : rm.slots = 0) (hC : cells ≤ R.cells) (hN : slots ≤ R.slots)
    {g : JFrame} (hg : g.method = m) (hsize : g.locals.size = c.maxLocals) (hlen : ∀ sig, parseMethodDescriptor y.desc = some sig → argsL.length = sig.parameters.length) (hstack : g.stack = argsL.reverse ++ .ref a :: rest) (hW : 2 * g.monitorRoom + (rest.map fun v => v.category).sum ≤ W) (hdg : decode c.code g.pc = .ok (.invokevirtual index, 3)) :
    ∃ T' : State, Stand p l e R s m args below meth c T' locs cells slots ∧ T'.heap = h ∧ ∀ target, Steps p.tables e below (T'.setTop { g with pc := g.pc + 3, stack := r :: rest }) target → Steps p.tables e below (T.setTop g) target := by
  obtain ⟨v, T', L, X', ⟨rfl, rfl, q⟩, st⟩ := zq_callV X hx hZ hown w1 w2 w5 w6 w3 w4 hy hM eT E hf hl (by rw [hcells]; exact hC) (by rw [hslots]; exact hN) hg hsize hlen hstack hW hdg
  rw [hcells, hslots, List.append_nil] at X'
  exact ⟨T', X', q, st⟩
/-- a constructor (or a void callee) that leaves no trace -/
def zq_void (h0 : Heap) : Option Value → Heap → List Loc → Prop := fun v h L => v = none ∧ L = [] ∧ h = h0
theorem zq_callC0 (X : Stand p l e R s m args below meth c T locs cells slots) (hx : p.tables.exec = Jvm.exec) (hZ : Z.Warmed39 s.vm) {own : String} {index W : Nat} {y : MethodName} {bytes : ByteArray} {maxL : Nat} {rm : Room} (hy1 : y.name = "<init>") (hown : s.vm.findClass own = some m.cls)
    (w1 : (Cond.methodLink own index y).before a0 Z = true) (w2 : (Cond.instanceMethod y).before a0 Z = true) (w3 : (Cond.initialized y.cls).before a0 Z = true) (w4 : (Cond.code y bytes maxL none).before a0 Z = true) (hy : y.cls ≠ "java/lang/invoke/MethodHandle" ∧ y.cls ≠ "java/lang/invoke/VarHandle") {a : Addr} {argsL rest : List Value}
    (hM : zq_Met l Z y bytes maxL none [] rm (.ref a :: argsL).toArray h (zq_void h)) (eT : T.heap = h) (hf : rm.frames + 1 ≤ R.frames) (hl : W + (maxL + 11) + rm.locals ≤ R.locals) (hcells : rm.cells = 0) (hslots : rm.slots = 0) (hC : cells ≤ R.cells) (hN : slots ≤ R.slots)
    {g : JFrame} (hg : g.method = m) (hsize : g.locals.size = c.maxLocals) (hlen : ∀ sig, parseMethodDescriptor y.desc = some sig → argsL.length = sig.parameters.length) (hstack : g.stack = argsL.reverse ++ .ref a :: rest) (hW : 2 * g.monitorRoom + (rest.map fun v => v.category).sum ≤ W) (hdg : decode c.code g.pc = .ok (.invokespecial index, 3)) :
    ∃ T' : State, Stand p l e R s m args below meth c T' locs cells slots ∧ T'.heap = h ∧ ∀ target, Steps p.tables e below (T'.setTop { g with pc := g.pc + 3, stack := rest }) target → Steps p.tables e below (T.setTop g) target := by
  obtain ⟨v, T', L, X', ⟨rfl, rfl, q⟩, st⟩ := zq_callC X hx hZ hy1 hown w1 w2 w3 w4 hy hM eT hf hl (by rw [hcells]; exact hC) (by rw [hslots]; exact hN) hg hsize hlen hstack hW hdg
  rw [hcells, hslots, List.append_nil] at X'
  exact ⟨T', X', q, st⟩
/-- an array of n places; place j holds f j -/
def zq_A (Z : State) (h : Heap) (a : Addr) (ty : FieldType) (n : Nat) (f : Nat → Value) : Prop := ∃ cl : Cell, Arr Z h a cl ty ∧ cl.slots.size = n ∧ ∀ j, j < n → cl.slots[j]? = some (f j)
variable {h' : Heap} {a b : Addr} {ty : FieldType} {n sl : Nat} {f f' : Nat → Value} {v : Value} {as : List Addr}
theorem zq_A.lt (F : zq_A Z h a ty n f) : a < h.size := by obtain ⟨cl, A, -⟩ := F; exact A.lt
theorem zq_A.ext (F : zq_A Z h a ty n f) (E : Ext h h') : zq_A Z h' a ty n f := by obtain ⟨cl, A, r⟩ := F; exact ⟨cl, A.ext E, r⟩
theorem zq_A.other (F : zq_A Z h b ty n f) (W : Wr h h' a sl v) (q : b ≠ a) : zq_A Z h' b ty n f := by obtain ⟨cl, A, r⟩ := F; exact ⟨cl, A.other W q, r⟩
theorem zq_A.keep (F : zq_A Z h a ty n f) (K : Keep h h' as) (q : a ∉ as) : zq_A Z h' a ty n f := by obtain ⟨cl, A, r⟩ := F; exact ⟨cl, ⟨K.2.1 a cl A.1 q, A.2⟩, r⟩
theorem zq_A.congr (F : zq_A Z h a ty n f) (q : ∀ j, j < n → f j = f' j) : zq_A Z h a ty n f' := by obtain ⟨cl, A, S, H⟩ := F; exact ⟨cl, A, S, fun j hj => by rw [← q j hj]; exact H j hj⟩
theorem zq_A.set (F : zq_A Z h a ty n f) (W : Wr h h' a sl v) : zq_A Z h' a ty n (fun j => if j = sl then v else f j) := by
  obtain ⟨cl, A, S, H⟩ := F
  refine ⟨_, A.same W, ?_, fun j hj => ?_⟩
  · show (cl.slots.setIfInBounds sl v).size = n
    rw [Array.size_setIfInBounds]; exact S
  · show (cl.slots.setIfInBounds sl v)[j]? = some (if j = sl then v else f j)
    by_cases q : j = sl
    · subst q
      rw [if_pos rfl, Array.getElem?_setIfInBounds_self_of_lt (by rw [S]; exact hj)]
    · rw [if_neg q, Array.getElem?_setIfInBounds_ne (Ne.symm q)]; exact H j hj
theorem zq_inb {cl : Cell} {j : Int32} {i : Nat} (S : cl.slots.size = n) (hj : j.toNatClampNeg = i) (h0 : ¬ j < 0) (hi : i < n) : ¬ (j < 0 ∨ cl.slots.size ≤ j.toNatClampNeg) := by
  rintro (q | q)
  · exact h0 q
  · omega
theorem zq_ldI (X : Stand p l e R s m args below meth c T locs cells slots) (hx : p.tables.exec = Jvm.exec) (hZ : Z.Warmed39 s.vm) (eT : T.heap = h) (F : zq_A Z h a .int n f) {j : Int32} {i : Nat} (hj : j.toNatClampNeg = i) (h0 : ¬ j < 0) (hi : i < n)
    {g : JFrame} (hg : g.method = m) {rest : List Value} (hs : g.stack = .int j :: .ref a :: rest) (hd : decode c.code g.pc = .ok (.iaload, 1)) : ∀ target, Steps p.tables e below (T.setTop { g with pc := g.pc + 1, stack := f i :: rest }) target → Steps p.tables e below (T.setTop g) target := by
  obtain ⟨cl, A, S, H⟩ := F
  exact fun t k => X.iaload hx (j := j) (v := f i) (by rw [eT]; exact A.1) (State.isArrayOf_alike hZ.alike A.2.1) A.2.2 (zq_inb S hj h0 hi) (by rw [hj]; exact H i hi) hg hs hd t k
theorem zq_ldB (X : Stand p l e R s m args below meth c T locs cells slots) (hx : p.tables.exec = Jvm.exec) (hZ : Z.Warmed39 s.vm) (eT : T.heap = h) (F : zq_A Z h a .byte n f) {j : Int32} {i : Nat} (hj : j.toNatClampNeg = i) (h0 : ¬ j < 0) (hi : i < n)
    {g : JFrame} (hg : g.method = m) {rest : List Value} (hs : g.stack = .int j :: .ref a :: rest) (hd : decode c.code g.pc = .ok (.baload, 1)) : ∀ target, Steps p.tables e below (T.setTop { g with pc := g.pc + 1, stack := f i :: rest }) target → Steps p.tables e below (T.setTop g) target := by
  obtain ⟨cl, A, S, H⟩ := F
  exact fun t k => X.baloadBytes hx (j := j) (v := f i) (by rw [eT]; exact A.1) (State.isArrayOf_alike hZ.alike A.2.1) A.2.2 (zq_inb S hj h0 hi) (by rw [hj]; exact H i hi) hg hs hd t k
theorem zq_ldC (X : Stand p l e R s m args below meth c T locs cells slots) (hx : p.tables.exec = Jvm.exec) (hZ : Z.Warmed39 s.vm) (eT : T.heap = h) (F : zq_A Z h a .char n f) {j : Int32} {i : Nat} (hj : j.toNatClampNeg = i) (h0 : ¬ j < 0) (hi : i < n)
    {g : JFrame} (hg : g.method = m) {rest : List Value} (hs : g.stack = .int j :: .ref a :: rest) (hd : decode c.code g.pc = .ok (.caload, 1)) : ∀ target, Steps p.tables e below (T.setTop { g with pc := g.pc + 1, stack := f i :: rest }) target → Steps p.tables e below (T.setTop g) target := by
  obtain ⟨cl, A, S, H⟩ := F
  exact fun t k => X.caload hx (j := j) (v := f i) (by rw [eT]; exact A.1) (State.isArrayOf_alike hZ.alike A.2.1) A.2.2 (zq_inb S hj h0 hi) (by rw [hj]; exact H i hi) hg hs hd t k
theorem zq_ldJ (X : Stand p l e R s m args below meth c T locs cells slots) (hx : p.tables.exec = Jvm.exec) (hZ : Z.Warmed39 s.vm) (eT : T.heap = h) (F : zq_A Z h a .long n f) {j : Int32} {i : Nat} (hj : j.toNatClampNeg = i) (h0 : ¬ j < 0) (hi : i < n)
    {g : JFrame} (hg : g.method = m) {rest : List Value} (hs : g.stack = .int j :: .ref a :: rest) (hd : decode c.code g.pc = .ok (.laload, 1)) : ∀ target, Steps p.tables e below (T.setTop { g with pc := g.pc + 1, stack := f i :: rest }) target → Steps p.tables e below (T.setTop g) target := by
  obtain ⟨cl, A, S, H⟩ := F
  exact fun t k => X.laload hx (j := j) (v := f i) (by rw [eT]; exact A.1) (State.isArrayOf_alike hZ.alike A.2.1) A.2.2 (zq_inb S hj h0 hi) (by rw [hj]; exact H i hi) hg hs hd t k
theorem zq_len (X : Stand p l e R s m args below meth c T locs cells slots) (hx : p.tables.exec = Jvm.exec) (hZ : Z.Warmed39 s.vm) (eT : T.heap = h) (F : zq_A Z h a ty n f)
    {g : JFrame} (hg : g.method = m) {rest : List Value} (hs : g.stack = .ref a :: rest) (hd : decode c.code g.pc = .ok (.arraylength, 1)) : ∀ target, Steps p.tables e below (T.setTop { g with pc := g.pc + 1, stack := .int n.toInt32 :: rest }) target → Steps p.tables e below (T.setTop g) target := by
  obtain ⟨cl, A, S, H⟩ := F
  subst S
  exact fun t k => X.arraylength hx (by rw [eT]; exact A.1) (State.isArrayOf_alike hZ.alike A.2.1) hg hs hd t k
theorem zq_stI (X : Stand p l e R s m args below meth c T locs cells slots) (hx : p.tables.exec = Jvm.exec) (hZ : Z.Warmed39 s.vm) (eT : T.heap = h) (F : zq_A Z h a .int n f) {j x : Int32} {i : Nat} (hj : j.toNatClampNeg = i) (h0 : ¬ j < 0) (hi : i < n)
    {g : JFrame} (hg : g.method = m) {rest : List Value} (hs : g.stack = .int x :: .int j :: .ref a :: rest) (hd : decode c.code g.pc = .ok (.iastore, 1)) :
    ∃ T' h', Stand p l e R s m args below meth c T' (locs ++ [⟨a, i⟩]) cells slots ∧ T'.heap = h' ∧ Wr h h' a i (.int x) ∧ zq_A Z h' a .int n (fun k => if k = i then .int x else f k) ∧ ∀ target, Steps p.tables e below (T'.setTop { g with pc := g.pc + 1, stack := rest }) target → Steps p.tables e below (T.setTop g) target := by
  obtain ⟨cl, A, S, H⟩ := F
  subst hj
  obtain ⟨T', h', X', e', W, st⟩ := stI X hx hZ eT A (zq_inb S rfl h0 hi) hg hs hd
  exact ⟨T', h', X', e', W, zq_A.set ⟨cl, A, S, H⟩ W, st⟩
theorem zq_stB (X : Stand p l e R s m args below meth c T locs cells slots) (hx : p.tables.exec = Jvm.exec) (hZ : Z.Warmed39 s.vm) (eT : T.heap = h) (F : zq_A Z h a .byte n f) {j x : Int32} {i : Nat} (hj : j.toNatClampNeg = i) (h0 : ¬ j < 0) (hi : i < n)
    {g : JFrame} (hg : g.method = m) {rest : List Value} (hs : g.stack = .int x :: .int j :: .ref a :: rest) (hd : decode c.code g.pc = .ok (.bastore, 1)) :
    ∃ T' h', Stand p l e R s m args below meth c T' (locs ++ [⟨a, i⟩]) cells slots ∧ T'.heap = h' ∧ Wr h h' a i (.int x.toInt8.toInt32) ∧ zq_A Z h' a .byte n (fun k => if k = i then .int x.toInt8.toInt32 else f k) ∧ ∀ target, Steps p.tables e below (T'.setTop { g with pc := g.pc + 1, stack := rest }) target → Steps p.tables e below (T.setTop g) target := by
  obtain ⟨cl, A, S, H⟩ := F
  subst hj
  obtain ⟨T', h', X', e', W, st⟩ := stB X hx hZ eT A (zq_inb S rfl h0 hi) hg hs hd
  exact ⟨T', h', X', e', W, zq_A.set ⟨cl, A, S, H⟩ W, st⟩
theorem zq_stC (X : Stand p l e R s m args below meth c T locs cells slots) (hx : p.tables.exec = Jvm.exec) (hZ : Z.Warmed39 s.vm) (eT : T.heap = h) (F : zq_A Z h a .char n f) {j x : Int32} {i : Nat} (hj : j.toNatClampNeg = i) (h0 : ¬ j < 0) (hi : i < n)
    {g : JFrame} (hg : g.method = m) {rest : List Value} (hs : g.stack = .int x :: .int j :: .ref a :: rest) (hd : decode c.code g.pc = .ok (.castore, 1)) :
    ∃ T' h', Stand p l e R s m args below meth c T' (locs ++ [⟨a, i⟩]) cells slots ∧ T'.heap = h' ∧ Wr h h' a i (.int x.toUInt32.toUInt16.toUInt32.toInt32) ∧ zq_A Z h' a .char n (fun k => if k = i then .int x.toUInt32.toUInt16.toUInt32.toInt32 else f k) ∧ ∀ target, Steps p.tables e below (T'.setTop { g with pc := g.pc + 1, stack := rest }) target → Steps p.tables e below (T.setTop g) target := by
  obtain ⟨cl, A, S, H⟩ := F
  subst hj
  obtain ⟨T', h', X', e', W, st⟩ := stC X hx hZ eT A (zq_inb S rfl h0 hi) hg hs hd
  exact ⟨T', h', X', e', W, zq_A.set ⟨cl, A, S, H⟩ W, st⟩
theorem zq_stJ (X : Stand p l e R s m args below meth c T locs cells slots) (hx : p.tables.exec = Jvm.exec) (hZ : Z.Warmed39 s.vm) (eT : T.heap = h) (F : zq_A Z h a .long n f) {j : Int32} {x : Int64} {i : Nat} (hj : j.toNatClampNeg = i) (h0 : ¬ j < 0) (hi : i < n)
    {g : JFrame} (hg : g.method = m) {rest : List Value} (hs : g.stack = .long x :: .int j :: .ref a :: rest) (hd : decode c.code g.pc = .ok (.lastore, 1)) :
    ∃ T' h', Stand p l e R s m args below meth c T' (locs ++ [⟨a, i⟩]) cells slots ∧ T'.heap = h' ∧ Wr h h' a i (.long x) ∧ zq_A Z h' a .long n (fun k => if k = i then .long x else f k) ∧ ∀ target, Steps p.tables e below (T'.setTop { g with pc := g.pc + 1, stack := rest }) target → Steps p.tables e below (T.setTop g) target := by
  obtain ⟨cl, A, S, H⟩ := F
  subst hj
  obtain ⟨T', h', X', e', W, st⟩ := stJ X hx hZ eT A (zq_inb S rfl h0 hi) hg hs hd
  exact ⟨T', h', X', e', W, zq_A.set ⟨cl, A, S, H⟩ W, st⟩
theorem zq_newA (X : Stand p l e R s m args below meth c T locs cells slots) (hx : p.tables.exec = Jvm.exec) (hZ : Z.Warmed39 s.vm) {aty : ArrayType} (w : (Cond.arrayClass (newarray.typeOf aty)).before a0 Z = true) (eT : T.heap = h) {g : JFrame} (hg : g.method = m) (hd : decode c.code g.pc = .ok (.newarray aty, 2)) {j : Int32} {rest : List Value} (hs : g.stack = .int j :: rest)
    (h0 : ¬ j < 0) (hj : j.toNatClampNeg = n) {cap : Nat} (hcap : n ≤ cap) (hb : cap * 8 ≤ 536870912) (hc : cells + 1 ≤ R.cells) (hl : slots + cap ≤ R.slots) :
    ∃ T' h' b, b = h.size ∧ Stand p l e R s m args below meth c T' locs (cells + 1) (slots + cap) ∧ T'.heap = h' ∧ Ext h h' ∧ zq_A Z h' b (newarray.typeOf aty) n (fun _ => defaultValue (newarray.typeOf aty)) ∧
      ∀ target, Steps p.tables e below (T'.setTop { g with pc := g.pc + 2, stack := .ref b :: rest }) target → Steps p.tables e below (T.setTop g) target := by
  obtain ⟨T', h', cA, X', e', E', A', st⟩ := newP X hx hZ w eT hg hd hs h0 (cap := cap) (by rw [hj]; exact hcap) hb hc hl
  refine ⟨T', h', _, rfl, X', e', E', ⟨_, A', by rw [sz_new]; exact hj, fun i hi => ?_⟩, st⟩
  show (Array.replicate j.toNatClampNeg _)[i]? = _
  rw [hj, Array.getElem?_replicate, if_pos hi]
theorem zq_newO (X : Stand p l e R s m args below meth c T locs cells slots) (hx : p.tables.exec = Jvm.exec) (hZ : Z.Warmed39 s.vm) {own C : String} {index n : Nat} (hown : s.vm.findClass own = some m.cls) (w : (Cond.classLink own index C).before a0 Z = true) (wi : (Cond.instantiable C n).before a0 Z = true) (wz : (Cond.initialized C).before a0 Z = true) (eT : T.heap = h)
    {g : JFrame} (hg : g.method = m) (hd : decode c.code g.pc = .ok (.new index, 3)) (hc : cells + 1 ≤ R.cells) (hl : slots + n ≤ R.slots) :
    ∃ T' h' b, b = h.size ∧ Stand p l e R s m args below meth c T' locs (cells + 1) (slots + n) ∧ T'.heap = h' ∧ Ext h h' ∧ Exa Z h' b C ∧ (∀ {O nm d : String} {ty : FieldType}, Laid Z a0 C O nm d → parseFieldDescriptor d = some ty → Fld Z h' b O nm d (defaultValue ty)) ∧
      ∀ target, Steps p.tables e below (T'.setTop { g with pc := g.pc + 3, stack := .ref b :: g.stack }) target → Steps p.tables e below (T.setTop g) target := by
  obtain ⟨T', h', X', e', E', A', D', -, st⟩ := newO X hx hZ hown w wi wz eT hg hd hc hl
  exact ⟨T', h', _, rfl, X', e', E', A', D', st⟩
theorem zq_ne (F : a < h.size) (q : b = h.size) : a ≠ b := fun e => absurd F (by rw [e, q]; exact Nat.lt_irrefl _)
theorem zq_ne' (F : a < h.size) (q : b = h.size) : b ≠ a := fun e => absurd F (by rw [← e, q]; exact Nat.lt_irrefl _)
/-- a private instance method by its contract: 'selects' of itself is derived, not asked of the sheet -/
theorem zq_callR (X : Stand p l e R s m args below meth c T locs cells slots) (hx : p.tables.exec = Jvm.exec) (hZ : Z.Warmed39 s.vm) {own : String} {index W ni : Nat} {y : MethodName} {bytes : ByteArray} {maxL : Nat} {ret : Option FieldType} {rm : Room} (hown : s.vm.findClass own = some m.cls)
    (w1 : (Cond.methodLink own index y).before a0 Z = true) (w5 : (Cond.privateMethod y).before a0 Z = true) (wi : (Cond.instantiable y.cls ni).before a0 Z = true) (w6 : (Cond.instanceMethod y).before a0 Z = true) (w3 : (Cond.initialized y.cls).before a0 Z = true) (w4 : (Cond.code y bytes maxL ret).before a0 Z = true) (hy : y.cls ≠ "java/lang/invoke/MethodHandle" ∧ y.cls ≠ "java/lang/invoke/VarHandle") {a : Addr} {argsL rest : List Value}
    (hM : zq_Met l Z y bytes maxL ret [] rm (.ref a :: argsL).toArray h Q) (eT : T.heap = h) (E : Exa Z h a y.cls) (hf : rm.frames + 1 ≤ R.frames) (hl : W + (maxL + 11) + rm.locals ≤ R.locals) (hcells : cells + rm.cells ≤ R.cells) (hslots : slots + rm.slots ≤ R.slots)
    {g : JFrame} (hg : g.method = m) (hsize : g.locals.size = c.maxLocals) (hlen : ∀ sig, parseMethodDescriptor y.desc = some sig → argsL.length = sig.parameters.length) (hstack : g.stack = argsL.reverse ++ .ref a :: rest) (hW : 2 * g.monitorRoom + (rest.map fun v => v.category).sum ≤ W) (hdg : decode c.code g.pc = .ok (.invokevirtual index, 3)) :
    ∃ (v : Option Value) (T' : State) (L : List Loc), Stand p l e R s m args below meth c T' (locs ++ L) (cells + rm.cells) (slots + rm.slots) ∧ Q v T'.heap L ∧ ∀ target, Steps p.tables e below (T'.setTop { g with pc := g.pc + 3, stack := v.toList ++ rest }) target → Steps p.tables e below (T.setTop g) target := by
  obtain ⟨c0, k0, i1, i2, -, i4, -⟩ := Cond.instantiable_spec (mvT (args := args) hZ wi)
  have hpr := Cond.privateMethod_at (mvP hZ w5 (args := args))
  have hsel := selects_self_of_private i1 i2 (Bool.or_eq_false_iff.mp i4).1 hpr (mvT (args := args) hZ w6) hy
  obtain ⟨cq, q1, q2⟩ := E.cell
  obtain ⟨v, vm₁, ⟨T', L', k', n'⟩, -, X', ⟨L, hQ, e1, e2, e3⟩, st⟩ := X.privateBack hx (y := y) hown (mvT hZ w1) (mvT hZ w6) hsel hpr (mvT hZ w4) hy (backOf (W := W) hM hZ w4 w3 hf hl) hg hsize (Steps.refl _) (a := a) (by rw [eT]; exact q1) q2 hlen hstack hW hdg (fun _ _ => ⟨rfl, eT, hcells, hslots⟩)
  dsimp only [Pt.U, Pt.locs, Pt.cells, Pt.slots] at X' hQ e1 e2 e3 st
  subst e1 e2 e3
  exact ⟨v, T', L, X', hQ, fun t k => st.trans k⟩
end Own
abbrev zq_V := Int64 × Int64 × Int64 × Int64
def zq_rl (x : Int64) (k : Int32) : Int64 := (x <<< (k &&& 0x3f).toInt64) ||| ((x.toUInt64 >>> ((-k) &&& 0x3f).toInt64.toUInt64).toInt64)
def zq_rl2 (x : Int64) (k : Int32) : Int64 := (x <<< (k &&& 0x3f).toInt64) ||| ((x.toUInt64 >>> (((64 : Int32) - k) &&& 0x3f).toInt64.toUInt64).toInt64)
theorem zq_r13 (x : Int64) : zq_rl2 x 13 = zq_rl x 13 := by unfold zq_rl2 zq_rl; rw [show ((64 : Int32) - 13) &&& 0x3f = (-13) &&& 0x3f from by decide]
theorem zq_r16 (x : Int64) : zq_rl2 x 16 = zq_rl x 16 := by unfold zq_rl2 zq_rl; rw [show ((64 : Int32) - 16) &&& 0x3f = (-16) &&& 0x3f from by decide]
theorem zq_r17 (x : Int64) : zq_rl2 x 17 = zq_rl x 17 := by unfold zq_rl2 zq_rl; rw [show ((64 : Int32) - 17) &&& 0x3f = (-17) &&& 0x3f from by decide]
theorem zq_r21 (x : Int64) : zq_rl2 x 21 = zq_rl x 21 := by unfold zq_rl2 zq_rl; rw [show ((64 : Int32) - 21) &&& 0x3f = (-21) &&& 0x3f from by decide]
theorem zq_r32 (x : Int64) : zq_rl2 x 32 = zq_rl x 32 := by unfold zq_rl2 zq_rl; rw [show ((64 : Int32) - 32) &&& 0x3f = (-32) &&& 0x3f from by decide]
def zq_rd (v : zq_V) : zq_V :=
  let a0 := v.1 + v.2.1
  let a1 := zq_rl v.2.1 13 ^^^ a0
  let b0 := zq_rl a0 32
  let a2 := v.2.2.1 + v.2.2.2
  let a3 := zq_rl v.2.2.2 16 ^^^ a2
  let c0 := b0 + a3
  let b3 := zq_rl a3 21 ^^^ c0
  let b2 := a2 + a1
  let b1 := zq_rl a1 17 ^^^ b2
  (c0, b1, zq_rl b2 32, b3)
def zq_rd2 (v : zq_V) : zq_V :=
  let a0 := v.1 + v.2.1
  let a1 := zq_rl2 v.2.1 13 ^^^ a0
  let b0 := zq_rl2 a0 32
  let a2 := v.2.2.1 + v.2.2.2
  let a3 := zq_rl2 v.2.2.2 16 ^^^ a2
  let c0 := b0 + a3
  let b3 := zq_rl2 a3 21 ^^^ c0
  let b2 := a2 + a1
  let b1 := zq_rl2 a1 17 ^^^ b2
  (c0, b1, zq_rl2 b2 32, b3)
theorem zq_rdd : zq_rd2 = zq_rd := by
  funext v
  simp only [zq_rd2, zq_rd, zq_r13, zq_r16, zq_r17, zq_r21, zq_r32]
def zq_iv (k0 k1 : Int64) : zq_V := (k0 ^^^ (8317987319222330741 : Int64), k1 ^^^ (7237128888997146477 : Int64), k0 ^^^ (7816392313619706465 : Int64), k1 ^^^ (8387220255154660723 : Int64))
def zq_tk (rd : zq_V → zq_V) (v : zq_V) (m : Int64) : zq_V :=
  let w := rd (rd (v.1, v.2.1, v.2.2.1, v.2.2.2 ^^^ m))
  (w.1 ^^^ m, w.2.1, w.2.2.1, w.2.2.2)
def zq_fold (w : zq_V) : Int32 := ((((w.1 ^^^ w.2.1) ^^^ w.2.2.1) ^^^ w.2.2.2) ^^^ (((((w.1 ^^^ w.2.1) ^^^ w.2.2.1) ^^^ w.2.2.2).toUInt64 >>> ((32 : Int32) &&& 0x3f).toInt64.toUInt64).toInt64)).toInt32
def zq_en (rd : zq_V → zq_V) (v : zq_V) (m : Int64) : Int32 :=
  let t := zq_tk rd v m
  zq_fold (rd (rd (rd (rd (t.1, t.2.1, t.2.2.1 ^^^ (255 : Int64), t.2.2.2)))))
def zq_full (c0 c1 c2 c3 : Int32) : Int64 := (((c0.toInt64) ||| ((c1.toInt64) <<< ((16 : Int32) &&& 0x3f).toInt64)) ||| ((c2.toInt64) <<< ((32 : Int32) &&& 0x3f).toInt64)) ||| ((c3.toInt64) <<< ((48 : Int32) &&& 0x3f).toInt64)
def zq_M (n : Int32) : Int64 := (((2 : Int32) * n).toInt64) <<< ((56 : Int32) &&& 0x3f).toInt64
def zq_tl (u : Nat → Int32) (base : Nat) : Nat → Nat → Int64 → Int64
  | 0, _, acc => acc
  | k + 1, j, acc => zq_tl u base k (j + 1) (acc ||| (((u (base + j)).toInt64) <<< (((16 : Int32) * Nat.toInt32 j) &&& 0x3f).toInt64))
def zq_ov (k0 k1 : Int64) (u : Nat → Int32) (f N : Nat) : zq_V := if 4 ≤ N then zq_tk zq_rd (zq_iv k0 k1) (zq_full (u f) (u (f + 1)) (u (f + 2)) (u (f + 3))) else zq_iv k0 k1
def zq_of (k0 k1 : Int64) (u : Nat → Int32) (f N : Nat) : Int32 := zq_en zq_rd (zq_ov k0 k1 u f N) (zq_tl u (f + N / 4 * 4) (N - N / 4 * 4) 0 (zq_M (Nat.toInt32 N)))
def zq_lo (c : Int32) : Int64 := (c &&& (255 : Int32)).toInt64
def zq_hi (c : Int32) : Int64 := (((c.toUInt32 >>> ((8 : Int32) &&& 31).toUInt32).toInt32) &&& (255 : Int32)).toInt64
def zq_by (cc : Nat → Int32) (n j : Int32) : Int64 := if j < (2 : Int32) * n then (if (j &&& (1 : Int32)) = (0 : Int32) then zq_lo (cc (j >>> ((1 : Int32) &&& 31)).toNatClampNeg) else zq_hi (cc (j >>> ((1 : Int32) &&& 31)).toNatClampNeg)) else 0
def zq_sh (x : Int64) (k : Int32) : Int64 := x <<< (k &&& 0x3f).toInt64
def zq_wd (cc : Nat → Int32) (n b : Int32) : Int64 := ((((((zq_by cc n b ||| zq_sh (zq_by cc n (b + 1)) 8) ||| zq_sh (zq_by cc n (b + 2)) 16) ||| zq_sh (zq_by cc n (b + 3)) 24) ||| zq_sh (zq_by cc n (b + 4)) 32) ||| zq_sh (zq_by cc n (b + 5)) 40) ||| zq_sh (zq_by cc n (b + 6)) 48) ||| zq_sh (zq_by cc n (b + 7)) 56
def zq_bs (n : Int32) : Int32 := if n < 4 then 0 else 8
def zq_rv (k0 k1 : Int64) (cc : Nat → Int32) (n : Int32) : zq_V := if n < 4 then zq_iv k0 k1 else zq_tk zq_rd2 (zq_iv k0 k1) (zq_wd cc n 0)
def zq_ref (k0 k1 : Int64) (cc : Nat → Int32) (n : Int32) : Int32 := zq_en zq_rd2 (zq_rv k0 k1 cc n) (zq_wd cc n (zq_bs n) ||| zq_M n)
def zq_ar (cc : Nat → Int32) (g : Int32) (f q j : Nat) : Int32 := if f ≤ j ∧ j < f + q then cc (j - f) else g
/-! numbers -/
theorem zq_lt {i n : Nat} (hn : n < 2147483648) (hi : i < 2147483648) : i.toInt32 < n.toInt32 ↔ i < n := by
  rw [Int32.lt_iff_toInt_lt, len_toInt (show n < 2 ^ 31 by omega), len_toInt (show i < 2 ^ 31 by omega)]; omega
theorem zq_add {i j : Nat} (h : i + j < 2147483648) : i.toInt32 + j.toInt32 = (i + j).toInt32 := by
  apply Int32.toInt_inj.mp
  have a := c_iadd i.toInt32 j.toInt32
  have b := len_toInt (show i < 2 ^ 31 by omega)
  have c := len_toInt (show j < 2 ^ 31 by omega)
  have d := len_toInt (show i + j < 2 ^ 31 by omega)
  have r := rng32 (i.toInt32 + j.toInt32)
  omega
theorem zq_inc {i : Nat} (hi : i < 2147483647) : i.toInt32 + 1 = (i + 1).toInt32 := zq_add (j := 1) (by omega)
theorem zq_dif {i j : Nat} (h : i + j < 2147483648) : (i + j).toInt32 - i.toInt32 = j.toInt32 := by
  apply Int32.toInt_inj.mp
  have a := c_isub (i + j).toInt32 i.toInt32
  have b := len_toInt (show i < 2 ^ 31 by omega)
  have c := len_toInt (show j < 2 ^ 31 by omega)
  have d := len_toInt (show i + j < 2 ^ 31 by omega)
  have r := rng32 ((i + j).toInt32 - i.toInt32)
  omega
theorem zq_cl {i : Nat} (hi : i < 2147483648) : i.toInt32.toNatClampNeg = i := by
  have b := len_toInt (show i < 2 ^ 31 by omega)
  simp only [Int32.toNatClampNeg, b]; omega
theorem zq_nn {i : Nat} (hi : i < 2147483648) : ¬ i.toInt32 < 0 := by
  have b := len_toInt (show i < 2 ^ 31 by omega)
  rw [Int32.lt_iff_toInt_lt, b, show (0 : Int32).toInt = 0 from by decide]; omega
theorem zq_limt : ∀ N : Fin 8, (Nat.toInt32 N.val / (4 : Int32)) * (4 : Int32) = Nat.toInt32 (N.val / 4 * 4) := by decide +kernel
theorem zq_lim {f N : Nat} (hf : f ≤ 3) (hN : N ≤ 7) : Nat.toInt32 f + ((Nat.toInt32 N / (4 : Int32)) * (4 : Int32)) = Nat.toInt32 (f + N / 4 * 4) := by
  rw [zq_limt ⟨N, by omega⟩, zq_add (by omega)]
theorem zq_ixc {f k : Nat} (h : f + k < 2147483648) : (Nat.toInt32 f + Nat.toInt32 k).toNatClampNeg = f + k := by rw [zq_add h, zq_cl h]
theorem zq_ixn {f k : Nat} (h : f + k < 2147483648) : ¬ (Nat.toInt32 f + Nat.toInt32 k) < 0 := by rw [zq_add h]; exact zq_nn h
theorem zq_low {y : Int32} {k : Nat} (h0 : 0 ≤ y.toInt) (h1 : y.toInt < k) (hk : k ≤ 2147483648) : ∃ n : Nat, n < k ∧ y = n.toInt32 := by
  have q : ¬ y < 0 := by rw [Int32.lt_iff_toInt_lt]; simp only [Int32.reduceToInt]; omega
  refine ⟨y.toNatClampNeg, by simp only [Int32.toNatClampNeg]; omega, (back32 q).1.symm⟩
theorem zq_mask (x m : Int32) (k : Nat) (hk : k ≤ 31) (hm : m.toBitVec.toNat = 2 ^ k - 1) : ∃ n : Nat, n < 2 ^ k ∧ x &&& m = n.toInt32 := by
  have q := c_mask x m k hk hm
  have p : 0 < 2 ^ k := Nat.pow_pos (by decide)
  have r : 2 ^ k ≤ 2 ^ 31 := Nat.pow_le_pow_right (by decide) hk
  exact zq_low (by rw [q]; exact Int.emod_nonneg _ (by omega)) (by rw [q]; exact Int.emod_lt_of_pos _ (by omega)) (by omega)
def zq_chr (c : Int32) : Prop := 0 ≤ c.toInt ∧ c.toInt < 65536
theorem zq_isc (x : Int32) : zq_chr x.toUInt32.toUInt16.toUInt32.toInt32 := (c_i2c x).2
theorem zq_gg {c : Int32} (h : zq_chr c) : c.toUInt32.toUInt16.toUInt32.toInt32 = c := by
  apply Int32.toInt_inj.mp
  have a := c_i2c c
  unfold zq_chr at h
  omega
theorem zq_byt : ∀ (N k : Fin 8) (b : Fin 2), ((Nat.toInt32 (8 * b.val) + Nat.toInt32 k.val) < (2 : Int32) * Nat.toInt32 N.val ↔ 8 * b.val + k.val < 2 * N.val) ∧ (((Nat.toInt32 (8 * b.val) + Nat.toInt32 k.val) &&& (1 : Int32)) = (0 : Int32) ↔ k.val % 2 = 0) ∧ ((Nat.toInt32 (8 * b.val) + Nat.toInt32 k.val) >>> ((1 : Int32) &&& 31)).toNatClampNeg = 4 * b.val + k.val / 2 ∧ ¬ ((Nat.toInt32 (8 * b.val) + Nat.toInt32 k.val) >>> ((1 : Int32) &&& 31)) < 0 := by decide +kernel
theorem zq_rg {N k b : Nat} (hN : N ≤ 7) (hk : k ≤ 7) (hb : b ≤ 1) : (Nat.toInt32 (8 * b) + Nat.toInt32 k) < (2 : Int32) * Nat.toInt32 N → ¬ ((Nat.toInt32 (8 * b) + Nat.toInt32 k) >>> ((1 : Int32) &&& 31)) < 0 ∧ ((Nat.toInt32 (8 * b) + Nat.toInt32 k) >>> ((1 : Int32) &&& 31)).toNatClampNeg < 7 := fun q => by
  obtain ⟨t1, -, t3, t4⟩ := zq_byt ⟨N, by omega⟩ ⟨k, by omega⟩ ⟨b, by omega⟩
  have := t1.mp q
  exact ⟨t4, by rw [t3]; simp only at this ⊢; omega⟩
theorem zq_byN (cc : Nat → Int32) {N k b : Nat} (hN : N ≤ 7) (hk : k ≤ 7) (hb : b ≤ 1) : zq_by cc (Nat.toInt32 N) (Nat.toInt32 (8 * b) + Nat.toInt32 k) = if 8 * b + k < 2 * N then (if k % 2 = 0 then zq_lo (cc (4 * b + k / 2)) else zq_hi (cc (4 * b + k / 2))) else 0 := by
  obtain ⟨t1, t2, t3, -⟩ := zq_byt ⟨N, by omega⟩ ⟨k, by omega⟩ ⟨b, by omega⟩
  simp only at t1 t2 t3
  unfold zq_by
  rw [t3]
  simp only [t1, t2]
/-! a char's two bytes -/
theorem zq_lov {c : Int32} (h : zq_chr c) : (zq_lo c).toInt = c.toInt % 256 := by
  unfold zq_lo
  rw [c_i2l, c_mask c 255 8 (by decide) (by decide)]; rfl
theorem zq_hiv {c : Int32} (h : zq_chr c) : (zq_hi c).toInt = c.toInt / 256 := by
  unfold zq_hi
  unfold zq_chr at h
  have a := c_iushr c 8 8 (by decide) (by decide)
  rw [c_i2l, c_mask _ 255 8 (by decide) (by decide), a, show ((2 ^ 8 : Nat) : Int) = 256 from rfl]
  omega
theorem zq_ch0 {c : Int32} (h : zq_chr c) : zq_lo c ||| zq_sh (zq_hi c) 8 = c.toInt64 := by
  apply Int64.toInt_inj.mp
  have a := zq_lov h
  have b := zq_hiv h
  have d := c_lshl (zq_hi c) 8 8 (by decide)
  change ((zq_sh (zq_hi c) 8).toInt - _) % _ = 0 at d
  rw [show ((2 ^ 8 : Nat) : Int) = 256 from rfl] at d
  unfold zq_chr at h
  have r := rng64 (zq_sh (zq_hi c) 8)
  have o := c_orL' (zq_lo c) (zq_sh (zq_hi c) 8) 8 (by decide) 256 rfl (by omega) (by omega) (by omega)
  have r2 := rng64 (zq_lo c ||| zq_sh (zq_hi c) 8)
  rw [c_i2l]
  omega
theorem zq_chs {c : Int32} (h : zq_chr c) (q q8 : Int32) (k : Nat) (P : Int) (hk : k ≤ 48) (hP : P = (2 ^ k : Nat)) (hq : q.toBitVec.toNat % 64 = k) (hq8 : q8.toBitVec.toNat % 64 = k + 8) (hd : ∃ z : Int, 18446744073709551616 = 256 * P * z) (hP0 : 0 < P) (hPb : 65536 * P ≤ 18446744073709551616) : zq_sh (zq_lo c) q ||| zq_sh (zq_hi c) q8 = zq_sh c.toInt64 q := by
  apply Int64.toInt_inj.mp
  have a := zq_lov h
  have b := zq_hiv h
  have d1 := c_lshl (zq_lo c) q k hq
  have d2 := c_lshl (zq_hi c) q8 (k + 8) hq8
  have d3 := c_lshl c.toInt64 q k hq
  change ((zq_sh (zq_lo c) q).toInt - _) % _ = 0 at d1
  change ((zq_sh (zq_hi c) q8).toInt - _) % _ = 0 at d2
  change ((zq_sh c.toInt64 q).toInt - _) % _ = 0 at d3
  have e8 : ((2 ^ (k + 8) : Nat) : Int) = 256 * P := by rw [hP, Nat.pow_add, Int.natCast_mul]; omega
  rw [← hP, a] at d1
  rw [e8, b] at d2
  rw [← hP, c_i2l] at d3
  unfold zq_chr at h
  obtain ⟨z, hz⟩ := hd
  have l0 : 0 ≤ c.toInt % 256 * P := Int.mul_nonneg (by omega) (by omega)
  have l1 : c.toInt % 256 * P < 256 * P := Int.mul_lt_mul_of_pos_right (by omega) hP0
  have r1 := rng64 (zq_sh (zq_lo c) q)
  have r2 := rng64 (zq_sh (zq_hi c) q8)
  have r3 := rng64 (zq_sh c.toInt64 q)
  have r4 := rng64 (zq_sh (zq_lo c) q ||| zq_sh (zq_hi c) q8)
  have lv : (zq_sh (zq_lo c) q).toInt = c.toInt % 256 * P := by omega
  have hv : (zq_sh (zq_hi c) q8).toInt % (256 * P) = 0 := by
    have e1 : (zq_sh (zq_hi c) q8).toInt = 18446744073709551616 * (((zq_sh (zq_hi c) q8).toInt - c.toInt / 256 * (256 * P)) / 18446744073709551616) + c.toInt / 256 * (256 * P) := by omega
    rw [e1, hz, Int.mul_assoc, ← Int.mul_comm (256 * P) (c.toInt / 256), ← Int.mul_add]
    exact Int.mul_emod_right _ _
  have o := c_orL' (zq_sh (zq_lo c) q) (zq_sh (zq_hi c) q8) (k + 8) (by omega) (256 * P) e8.symm hv (by omega) (by omega)
  have s1 : c.toInt * P = c.toInt % 256 * P + c.toInt / 256 * (256 * P) := by
    rw [← Int.mul_assoc, ← Int.add_mul]; congr 1; omega
  omega
theorem zq_word {c0 c1 c2 c3 : Int32} (h0 : zq_chr c0) (h1 : zq_chr c1) (h2 : zq_chr c2) (h3 : zq_chr c3) : ((((((zq_lo c0 ||| zq_sh (zq_hi c0) 8) ||| zq_sh (zq_lo c1) 16) ||| zq_sh (zq_hi c1) 24) ||| zq_sh (zq_lo c2) 32) ||| zq_sh (zq_hi c2) 40) ||| zq_sh (zq_lo c3) 48) ||| zq_sh (zq_hi c3) 56 = zq_full c0 c1 c2 c3 := by
  rw [zq_ch0 h0, Int64.or_assoc c0.toInt64, zq_chs h1 16 24 16 65536 (by decide) rfl (by decide) (by decide) ⟨1099511627776, by decide⟩ (by decide) (by decide),
    Int64.or_assoc _ (zq_sh (zq_lo c2) 32), zq_chs h2 32 40 32 4294967296 (by decide) rfl (by decide) (by decide) ⟨16777216, by decide⟩ (by decide) (by decide),
    Int64.or_assoc _ (zq_sh (zq_lo c3) 48), zq_chs h3 48 56 48 281474976710656 (by decide) rfl (by decide) (by decide) ⟨256, by decide⟩ (by decide) (by decide)]
  rfl
theorem zq_c0 : zq_chr 0 := by unfold zq_chr; decide
def zq_y (cc : Nat → Int32) (N i : Nat) : Int32 := if i < N then cc i else 0
theorem zq_wdN (cc : Nat → Int32) (hc : ∀ i, i < 7 → zq_chr (cc i)) {N b : Nat} (hN : N ≤ 7) (hb : b ≤ 1) : zq_wd cc (Nat.toInt32 N) (Nat.toInt32 (8 * b)) = zq_full (zq_y cc N (4 * b)) (zq_y cc N (4 * b + 1)) (zq_y cc N (4 * b + 2)) (zq_y cc N (4 * b + 3)) := by
  have hy : ∀ i, zq_chr (zq_y cc N i) := fun i => by
    unfold zq_y
    split
    · exact hc i (by omega)
    · exact zq_c0
  have e : ∀ k, k ≤ 7 → zq_by cc (Nat.toInt32 N) (Nat.toInt32 (8 * b) + Nat.toInt32 k) = if k % 2 = 0 then zq_lo (zq_y cc N (4 * b + k / 2)) else zq_hi (zq_y cc N (4 * b + k / 2)) := fun k hk => by
    rw [zq_byN cc hN hk hb]
    unfold zq_y
    by_cases q : 8 * b + k < 2 * N
    · rw [if_pos q, if_pos (show 4 * b + k / 2 < N by omega)]
    · rw [if_neg q, if_neg (show ¬ 4 * b + k / 2 < N by omega)]
      split <;> decide
  have e0 := e 0 (by omega)
  rw [show Nat.toInt32 (8 * b) + Nat.toInt32 0 = Nat.toInt32 (8 * b) from Int32.add_zero _] at e0
  unfold zq_wd
  rw [e0, show (1 : Int32) = Nat.toInt32 1 from rfl, e 1 (by omega), show (2 : Int32) = Nat.toInt32 2 from rfl, e 2 (by omega), show (3 : Int32) = Nat.toInt32 3 from rfl, e 3 (by omega), show (4 : Int32) = Nat.toInt32 4 from rfl, e 4 (by omega), show (5 : Int32) = Nat.toInt32 5 from rfl, e 5 (by omega), show (6 : Int32) = Nat.toInt32 6 from rfl, e 6 (by omega), show (7 : Int32) = Nat.toInt32 7 from rfl, e 7 (by omega)]
  exact zq_word (hy _) (hy _) (hy _) (hy _)
theorem zq_arv (cc : Nat → Int32) (g : Int32) {f N i : Nat} (h : i < N) : zq_ar cc g f N (f + i) = cc i := by
  unfold zq_ar
  rw [if_pos (by omega), Nat.add_sub_cancel_left]
theorem zq_arst (cc : Nat → Int32) (g : Int32) (f N k : Nat) (hk : k < N) (j : Nat) : (if j = f + k then Value.int (cc k) else Value.int (zq_ar cc g f (min k N) j)) = Value.int (zq_ar cc g f (min (k + 1) N) j) := by
  rw [show min k N = k by omega, show min (k + 1) N = k + 1 by omega]
  unfold zq_ar
  by_cases q : j = f + k
  · subst q
    rw [if_pos rfl, if_pos (by omega), Nat.add_sub_cancel_left]
  · rw [if_neg q]
    by_cases q2 : f ≤ j ∧ j < f + k
    · rw [if_pos q2, if_pos (by omega)]
    · rw [if_neg q2, if_neg (by omega)]
theorem zq_z1 (k : Int32) : zq_sh (Int32.toInt64 0) k = 0 := by unfold zq_sh; rw [show Int32.toInt64 0 = 0 from by decide]; exact Int64.zero_shiftLeft
theorem zq_tail (u : Nat → Int32) (base r : Nat) (hr : r ≤ 3) (M : Int64) : zq_tl u base r 0 M = zq_full (if 0 < r then u (base + 0) else 0) (if 1 < r then u (base + 1) else 0) (if 2 < r then u (base + 2) else 0) 0 ||| M := by
  have s0 : ∀ x : Int64, x <<< (((16 : Int32) * Nat.toInt32 0) &&& 0x3f).toInt64 = x := fun x => by rw [show (((16 : Int32) * Nat.toInt32 0) &&& 0x3f).toInt64 = 0 from by decide]; exact Int64.shiftLeft_zero
  have s1 : ∀ x : Int64, x <<< (((16 : Int32) * Nat.toInt32 1) &&& 0x3f).toInt64 = zq_sh x 16 := fun x => rfl
  have s2 : ∀ x : Int64, x <<< (((16 : Int32) * Nat.toInt32 2) &&& 0x3f).toInt64 = zq_sh x 32 := fun x => rfl
  have z : ∀ c0 c1 c2 : Int32, zq_full c0 c1 c2 0 = (c0.toInt64 ||| zq_sh c1.toInt64 16) ||| zq_sh c2.toInt64 32 := fun c0 c1 c2 => by
    show _ ||| zq_sh (Int32.toInt64 0) 48 = _
    rw [zq_z1, Int64.or_zero]; rfl
  rw [z]
  have hr' : r = 0 ∨ r = 1 ∨ r = 2 ∨ r = 3 := by omega
  rcases hr' with rfl | rfl | rfl | rfl
  · show M = ((Int32.toInt64 0 ||| zq_sh (Int32.toInt64 0) 16) ||| zq_sh (Int32.toInt64 0) 32) ||| M
    rw [zq_z1, zq_z1, show Int32.toInt64 0 = 0 from by decide, Int64.or_zero, Int64.or_zero, Int64.zero_or]
  · show M ||| (u (base + 0)).toInt64 <<< (((16 : Int32) * Nat.toInt32 0) &&& 0x3f).toInt64 = (((u (base + 0)).toInt64 ||| zq_sh (Int32.toInt64 0) 16) ||| zq_sh (Int32.toInt64 0) 32) ||| M
    rw [s0, zq_z1, zq_z1, Int64.or_zero, Int64.or_zero, Int64.or_comm]
  · show (M ||| (u (base + 0)).toInt64 <<< (((16 : Int32) * Nat.toInt32 0) &&& 0x3f).toInt64) ||| (u (base + 1)).toInt64 <<< (((16 : Int32) * Nat.toInt32 1) &&& 0x3f).toInt64 = (((u (base + 0)).toInt64 ||| zq_sh (u (base + 1)).toInt64 16) ||| zq_sh (Int32.toInt64 0) 32) ||| M
    rw [s0, s1, zq_z1, Int64.or_zero, Int64.or_assoc, Int64.or_comm]
  · show ((M ||| (u (base + 0)).toInt64 <<< (((16 : Int32) * Nat.toInt32 0) &&& 0x3f).toInt64) ||| (u (base + 1)).toInt64 <<< (((16 : Int32) * Nat.toInt32 1) &&& 0x3f).toInt64) ||| (u (base + 2)).toInt64 <<< (((16 : Int32) * Nat.toInt32 2) &&& 0x3f).toInt64 = (((u (base + 0)).toInt64 ||| zq_sh (u (base + 1)).toInt64 16) ||| zq_sh (u (base + 2)).toInt64 32) ||| M
    rw [s0, s1, s2, Int64.or_assoc M, Int64.or_assoc M, Int64.or_comm M]
theorem zq_law (k0 k1 : Int64) (cc : Nat → Int32) (g : Int32) (hc : ∀ i, i < 7 → zq_chr (cc i)) {f N : Nat} (hN : N ≤ 7) : zq_of k0 k1 (zq_ar cc g f N) f N = zq_ref k0 k1 cc (Nat.toInt32 N) := by
  have l4 : Nat.toInt32 N < (4 : Int32) ↔ N < 4 := zq_lt (i := N) (n := 4) (by omega) (by omega)
  have hv : zq_ov k0 k1 (zq_ar cc g f N) f N = zq_rv k0 k1 cc (Nat.toInt32 N) := by
    unfold zq_ov zq_rv
    rw [zq_rdd]
    by_cases q : 4 ≤ N
    · rw [if_pos q, if_neg (fun z => absurd (l4.mp z) (by omega))]
      have w := zq_wdN cc hc (b := 0) hN (by omega)
      rw [show (0 : Int32) = Nat.toInt32 (8 * 0) from rfl, w]
      unfold zq_y
      rw [if_pos (show 4 * 0 < N by omega), if_pos (show 4 * 0 + 1 < N by omega), if_pos (show 4 * 0 + 2 < N by omega), if_pos (show 4 * 0 + 3 < N by omega)]
      have a0 := zq_arv cc g (f := f) (N := N) (i := 0) (by omega)
      rw [Nat.add_zero] at a0
      rw [a0, zq_arv cc g (by omega), zq_arv cc g (by omega), zq_arv cc g (by omega)]
    · rw [if_neg q, if_pos (l4.mpr (by omega))]
  have hb : zq_bs (Nat.toInt32 N) = Nat.toInt32 (8 * (N / 4)) := by
    unfold zq_bs
    by_cases q : 4 ≤ N
    · rw [if_neg (fun z => absurd (l4.mp z) (by omega)), show N / 4 = 1 by omega]; rfl
    · rw [if_pos (l4.mpr (by omega)), show N / 4 = 0 by omega]; rfl
  unfold zq_of zq_ref
  rw [hv, hb, zq_wdN cc hc hN (by omega), zq_tail _ _ _ (by omega), zq_rdd]
  have e : ∀ i, i < 4 → zq_y cc N (4 * (N / 4) + i) = if i < N - N / 4 * 4 then zq_ar cc g f N (f + N / 4 * 4 + i) else 0 := fun i hi => by
    unfold zq_y
    by_cases q : i < N - N / 4 * 4
    · rw [if_pos q, if_pos (show 4 * (N / 4) + i < N by omega), show f + N / 4 * 4 + i = f + (4 * (N / 4) + i) by omega, zq_arv cc g (by omega)]
    · rw [if_neg q, if_neg (show ¬ 4 * (N / 4) + i < N by omega)]
  have e0 := e 0 (by omega)
  rw [Nat.add_zero] at e0
  have e3 := e 3 (by omega)
  rw [if_neg (show ¬ 3 < N - N / 4 * 4 by omega)] at e3
  rw [e0, e 1 (by omega), e 2 (by omega), e3]
theorem zq_pn0 : plainName "java/lang/Long" = true := by first | (simp [plainName, overriddenIn]; done) | decide +kernel
theorem zq_d8_0 : decode jdk_35_method_51_code 0 = .ok (.lload_n 0, 1) := by decide +kernel
theorem zq_d8_1 : decode jdk_35_method_51_code 1 = .ok (.iload_n 2, 1) := by decide +kernel
theorem zq_d8_2 : decode jdk_35_method_51_code 2 = .ok (.lshl, 1) := by decide +kernel
theorem zq_d8_3 : decode jdk_35_method_51_code 3 = .ok (.lload_n 0, 1) := by decide +kernel
theorem zq_d8_4 : decode jdk_35_method_51_code 4 = .ok (.iload_n 2, 1) := by decide +kernel
theorem zq_d8_5 : decode jdk_35_method_51_code 5 = .ok (.ineg, 1) := by decide +kernel
theorem zq_d8_6 : decode jdk_35_method_51_code 6 = .ok (.lushr, 1) := by decide +kernel
theorem zq_d8_7 : decode jdk_35_method_51_code 7 = .ok (.lor, 1) := by decide +kernel
theorem zq_d8_8 : decode jdk_35_method_51_code 8 = .ok (.lreturn, 1) := by decide +kernel
theorem zq_ef8 (m : MethodId) (x0 : Int64) (x1 : Int32) : entryFrame m #[(.long x0), (.int x1)] 3 = mkF m 0 #[.val (.long x0), .second, .val (.int x1)] [] := by first | (simp [entryFrame, mkF, argsToLocals, Value.category]; done) | rfl
set_option maxRecDepth 65536 in
set_option maxHeartbeats 40000000 in
theorem zq_rmL (l : Launch) (Z : State) (a0 : Array Value) (hw : ∀ d ∈ tables_1, d.before a0 Z = true) (ws : List Jvm.Cond) (x : Int64) (k : Int32) (h0 : Heap) :
    zq_Met l Z (⟨"java/lang/Long", "rotateLeft", "(JI)J"⟩ : MethodName) jdk_35_method_51_code 3 (some .long) ws ({ frames := 0, cells := 0, slots := 0, locals := 0 } : Room) #[(.long x), (.int k)] h0 (zq_pure (.long (zq_rl x k)) h0) := by
  refine zq_body (plainFor_of_name zq_pn0) ?_
  intro p e s m below meth c s₁ hx hZ hby hml hret hlk hown hnm X0 e0
  refine zq_go (fun _ kq => castTop (zq_ef8 m x k) kq) ?_
  show zq_Go p e below s _ _ _ (s₁.setTop (mkF m 0 #[.val (.long x), .second, .val (.int k)] []))
  refine zq_go (fun _ kq => XS.lloadN X0.here hx rfl (hb hby zq_d8_0) rfl kq) ?_
  show zq_Go p e below s _ _ _ (s₁.setTop (mkF m 1 #[.val (.long x), .second, .val (.int k)] [(.long x)]))
  refine zq_go (fun _ kq => XS.iloadN X0.here hx rfl (hb hby zq_d8_1) rfl kq) ?_
  show zq_Go p e below s _ _ _ (s₁.setTop (mkF m 2 #[.val (.long x), .second, .val (.int k)] [(.int k), (.long x)]))
  refine zq_go (fun _ kq => XS.lshl X0.here hx rfl (hb hby zq_d8_2) rfl kq) ?_
  show zq_Go p e below s _ _ _ (s₁.setTop (mkF m 3 #[.val (.long x), .second, .val (.int k)] [(.long (x <<< (k &&& 0x3f).toInt64))]))
  refine zq_go (fun _ kq => XS.lloadN X0.here hx rfl (hb hby zq_d8_3) rfl kq) ?_
  show zq_Go p e below s _ _ _ (s₁.setTop (mkF m 4 #[.val (.long x), .second, .val (.int k)] [(.long x), (.long (x <<< (k &&& 0x3f).toInt64))]))
  refine zq_go (fun _ kq => XS.iloadN X0.here hx rfl (hb hby zq_d8_4) rfl kq) ?_
  show zq_Go p e below s _ _ _ (s₁.setTop (mkF m 5 #[.val (.long x), .second, .val (.int k)] [(.int k), (.long x), (.long (x <<< (k &&& 0x3f).toInt64))]))
  refine zq_go (fun _ kq => XS.ineg X0.here hx rfl (hb hby zq_d8_5) rfl kq) ?_
  show zq_Go p e below s _ _ _ (s₁.setTop (mkF m 6 #[.val (.long x), .second, .val (.int k)] [(.int (-k)), (.long x), (.long (x <<< (k &&& 0x3f).toInt64))]))
  refine zq_go (fun _ kq => XS.lushr X0.here hx rfl (hb hby zq_d8_6) rfl kq) ?_
  show zq_Go p e below s _ _ _ (s₁.setTop (mkF m 7 #[.val (.long x), .second, .val (.int k)] [(.long ((x.toUInt64 >>> ((-k) &&& 0x3f).toInt64.toUInt64).toInt64)), (.long (x <<< (k &&& 0x3f).toInt64))]))
  refine zq_go (fun _ kq => XS.lor X0.here hx rfl (hb hby zq_d8_7) rfl kq) ?_
  show zq_Go p e below s _ _ _ (s₁.setTop (mkF m 8 #[.val (.long x), .second, .val (.int k)] [(.long ((x <<< (k &&& 0x3f).toInt64) ||| ((x.toUInt64 >>> ((-k) &&& 0x3f).toInt64.toUInt64).toInt64)))]))
  exact zq_retJ X0 hx hlk hret (hb hby zq_d8_8) ⟨rfl, rfl, e0⟩ (by decide) (by decide)
theorem zq_pn1 : plainName "com/example/clearline/clearline/formats/TableHashOfPinLaw" = true := by first | (simp [plainName, overriddenIn]; done) | decide +kernel
theorem zq_d14_0 : decode method_7_code 0 = .ok (.lload_n 0, 1) := by decide +kernel
theorem zq_d14_1 : decode method_7_code 1 = .ok (.iload_n 2, 1) := by decide +kernel
theorem zq_d14_2 : decode method_7_code 2 = .ok (.lshl, 1) := by decide +kernel
theorem zq_d14_3 : decode method_7_code 3 = .ok (.lload_n 0, 1) := by decide +kernel
theorem zq_d14_4 : decode method_7_code 4 = .ok (.bipush 64, 2) := by decide +kernel
theorem zq_d14_6 : decode method_7_code 6 = .ok (.iload_n 2, 1) := by decide +kernel
theorem zq_d14_7 : decode method_7_code 7 = .ok (.isub, 1) := by decide +kernel
theorem zq_d14_8 : decode method_7_code 8 = .ok (.lushr, 1) := by decide +kernel
theorem zq_d14_9 : decode method_7_code 9 = .ok (.lor, 1) := by decide +kernel
theorem zq_d14_10 : decode method_7_code 10 = .ok (.lreturn, 1) := by decide +kernel
theorem zq_ef14 (m : MethodId) (x0 : Int64) (x1 : Int32) : entryFrame m #[(.long x0), (.int x1)] 3 = mkF m 0 #[.val (.long x0), .second, .val (.int x1)] [] := by first | (simp [entryFrame, mkF, argsToLocals, Value.category]; done) | rfl
set_option maxRecDepth 65536 in
set_option maxHeartbeats 40000000 in
theorem zq_rmL2 (l : Launch) (Z : State) (a0 : Array Value) (hw : ∀ d ∈ tables_1, d.before a0 Z = true) (ws : List Jvm.Cond) (x : Int64) (k : Int32) (h0 : Heap) :
    zq_Met l Z (⟨"com/example/clearline/clearline/formats/TableHashOfPinLaw", "rotl", "(JI)J"⟩ : MethodName) method_7_code 3 (some .long) ws ({ frames := 0, cells := 0, slots := 0, locals := 0 } : Room) #[(.long x), (.int k)] h0 (zq_pure (.long (zq_rl2 x k)) h0) := by
  refine zq_body (plainFor_of_name zq_pn1) ?_
  intro p e s m below meth c s₁ hx hZ hby hml hret hlk hown hnm X0 e0
  refine zq_go (fun _ kq => castTop (zq_ef14 m x k) kq) ?_
  show zq_Go p e below s _ _ _ (s₁.setTop (mkF m 0 #[.val (.long x), .second, .val (.int k)] []))
  refine zq_go (fun _ kq => XS.lloadN X0.here hx rfl (hb hby zq_d14_0) rfl kq) ?_
  show zq_Go p e below s _ _ _ (s₁.setTop (mkF m 1 #[.val (.long x), .second, .val (.int k)] [(.long x)]))
  refine zq_go (fun _ kq => XS.iloadN X0.here hx rfl (hb hby zq_d14_1) rfl kq) ?_
  show zq_Go p e below s _ _ _ (s₁.setTop (mkF m 2 #[.val (.long x), .second, .val (.int k)] [(.int k), (.long x)]))
  refine zq_go (fun _ kq => XS.lshl X0.here hx rfl (hb hby zq_d14_2) rfl kq) ?_
  show zq_Go p e below s _ _ _ (s₁.setTop (mkF m 3 #[.val (.long x), .second, .val (.int k)] [(.long (x <<< (k &&& 0x3f).toInt64))]))
  refine zq_go (fun _ kq => XS.lloadN X0.here hx rfl (hb hby zq_d14_3) rfl kq) ?_
  show zq_Go p e below s _ _ _ (s₁.setTop (mkF m 4 #[.val (.long x), .second, .val (.int k)] [(.long x), (.long (x <<< (k &&& 0x3f).toInt64))]))
  refine zq_go (fun _ kq => XS.bipush X0.here hx rfl (hb hby zq_d14_4) kq) ?_
  show zq_Go p e below s _ _ _ (s₁.setTop (mkF m 6 #[.val (.long x), .second, .val (.int k)] [(.int (64 : Int32)), (.long x), (.long (x <<< (k &&& 0x3f).toInt64))]))
  refine zq_go (fun _ kq => XS.iloadN X0.here hx rfl (hb hby zq_d14_6) rfl kq) ?_
  show zq_Go p e below s _ _ _ (s₁.setTop (mkF m 7 #[.val (.long x), .second, .val (.int k)] [(.int k), (.int (64 : Int32)), (.long x), (.long (x <<< (k &&& 0x3f).toInt64))]))
  refine zq_go (fun _ kq => XS.isub X0.here hx rfl (hb hby zq_d14_7) rfl kq) ?_
  show zq_Go p e below s _ _ _ (s₁.setTop (mkF m 8 #[.val (.long x), .second, .val (.int k)] [(.int ((64 : Int32) - k)), (.long x), (.long (x <<< (k &&& 0x3f).toInt64))]))
  refine zq_go (fun _ kq => XS.lushr X0.here hx rfl (hb hby zq_d14_8) rfl kq) ?_
  show zq_Go p e below s _ _ _ (s₁.setTop (mkF m 9 #[.val (.long x), .second, .val (.int k)] [(.long ((x.toUInt64 >>> (((64 : Int32) - k) &&& 0x3f).toInt64.toUInt64).toInt64)), (.long (x <<< (k &&& 0x3f).toInt64))]))
  refine zq_go (fun _ kq => XS.lor X0.here hx rfl (hb hby zq_d14_9) rfl kq) ?_
  show zq_Go p e below s _ _ _ (s₁.setTop (mkF m 10 #[.val (.long x), .second, .val (.int k)] [(.long ((x <<< (k &&& 0x3f).toInt64) ||| ((x.toUInt64 >>> (((64 : Int32) - k) &&& 0x3f).toInt64.toUInt64).toInt64)))]))
  exact zq_retJ X0 hx hlk hret (hb hby zq_d14_10) ⟨rfl, rfl, e0⟩ (by decide) (by decide)
theorem zq_pn2 : plainName "com/example/clearline/clearline/formats/TableHash$Sip" = true := by first | (simp [plainName, overriddenIn]; done) | decide +kernel
theorem zq_d4_0 : decode prog_79_method_1_code 0 = .ok (.aload_n 0, 1) := by decide +kernel
theorem zq_d4_1 : decode prog_79_method_1_code 1 = .ok (.invokespecial 1, 3) := by decide +kernel
theorem zq_d4_4 : decode prog_79_method_1_code 4 = .ok (.aload_n 0, 1) := by decide +kernel
theorem zq_d4_5 : decode prog_79_method_1_code 5 = .ok (.lload_n 1, 1) := by decide +kernel
theorem zq_d4_6 : decode prog_79_method_1_code 6 = .ok (.ldc2_w 7, 3) := by decide +kernel
theorem zq_d4_9 : decode prog_79_method_1_code 9 = .ok (.lxor, 1) := by decide +kernel
theorem zq_d4_10 : decode prog_79_method_1_code 10 = .ok (.putfield 9, 3) := by decide +kernel
theorem zq_d4_13 : decode prog_79_method_1_code 13 = .ok (.aload_n 0, 1) := by decide +kernel
theorem zq_d4_14 : decode prog_79_method_1_code 14 = .ok (.lload_n 3, 1) := by decide +kernel
theorem zq_d4_15 : decode prog_79_method_1_code 15 = .ok (.ldc2_w 15, 3) := by decide +kernel
theorem zq_d4_18 : decode prog_79_method_1_code 18 = .ok (.lxor, 1) := by decide +kernel
theorem zq_d4_19 : decode prog_79_method_1_code 19 = .ok (.putfield 17, 3) := by decide +kernel
theorem zq_d4_22 : decode prog_79_method_1_code 22 = .ok (.aload_n 0, 1) := by decide +kernel
theorem zq_d4_23 : decode prog_79_method_1_code 23 = .ok (.lload_n 1, 1) := by decide +kernel
theorem zq_d4_24 : decode prog_79_method_1_code 24 = .ok (.ldc2_w 20, 3) := by decide +kernel
theorem zq_d4_27 : decode prog_79_method_1_code 27 = .ok (.lxor, 1) := by decide +kernel
theorem zq_d4_28 : decode prog_79_method_1_code 28 = .ok (.putfield 22, 3) := by decide +kernel
theorem zq_d4_31 : decode prog_79_method_1_code 31 = .ok (.aload_n 0, 1) := by decide +kernel
theorem zq_d4_32 : decode prog_79_method_1_code 32 = .ok (.lload_n 3, 1) := by decide +kernel
theorem zq_d4_33 : decode prog_79_method_1_code 33 = .ok (.ldc2_w 25, 3) := by decide +kernel
theorem zq_d4_36 : decode prog_79_method_1_code 36 = .ok (.lxor, 1) := by decide +kernel
theorem zq_d4_37 : decode prog_79_method_1_code 37 = .ok (.putfield 27, 3) := by decide +kernel
theorem zq_d4_40 : decode prog_79_method_1_code 40 = .ok (.return_, 1) := by decide +kernel
theorem zq_ef4 (m : MethodId) (x0 : Addr) (x1 : Int64) (x2 : Int64) : entryFrame m #[(.ref x0), (.long x1), (.long x2)] 5 = mkF m 0 #[.val (.ref x0), .val (.long x1), .second, .val (.long x2), .second] [] := by first | (simp [entryFrame, mkF, argsToLocals, Value.category]; done) | rfl
set_option maxRecDepth 65536 in
set_option maxHeartbeats 40000000 in
theorem zq_rmSI (l : Launch) (Z : State) (a0 : Array Value) (hw : ∀ d ∈ tables_1, d.before a0 Z = true) (ws : List Jvm.Cond) (a : Addr) (k0 : Int64) (k1 : Int64) (h0 : Heap) (n0 : Nat) (u0 u1 u2 u3 : Value) (E_a : Exa Z h0 a "com/example/clearline/clearline/formats/TableHash$Sip") (F_v0_a : Fld Z h0 a "com/example/clearline/clearline/formats/TableHash$Sip" "v0" "J" u0) (F_v1_a : Fld Z h0 a "com/example/clearline/clearline/formats/TableHash$Sip" "v1" "J" u1) (F_v2_a : Fld Z h0 a "com/example/clearline/clearline/formats/TableHash$Sip" "v2" "J" u2) (F_v3_a : Fld Z h0 a "com/example/clearline/clearline/formats/TableHash$Sip" "v3" "J" u3) (g_a : n0 ≤ a) :
    zq_Met l Z (⟨"com/example/clearline/clearline/formats/TableHash$Sip", "<init>", "(JJ)V"⟩ : MethodName) prog_79_method_1_code 5 none ws ({ frames := 1, cells := 0, slots := 0, locals := 12 } : Room) #[(.ref a), (.long k0), (.long k1)] h0 (fun r h L => r = none ∧ Fr n0 L ∧ Keep h0 h [a] ∧ Fld Z h a "com/example/clearline/clearline/formats/TableHash$Sip" "v0" "J" (.long (zq_iv k0 k1).1) ∧ Fld Z h a "com/example/clearline/clearline/formats/TableHash$Sip" "v1" "J" (.long (zq_iv k0 k1).2.1) ∧ Fld Z h a "com/example/clearline/clearline/formats/TableHash$Sip" "v2" "J" (.long (zq_iv k0 k1).2.2.1) ∧ Fld Z h a "com/example/clearline/clearline/formats/TableHash$Sip" "v3" "J" (.long (zq_iv k0 k1).2.2.2)) := by
  refine zq_body (plainFor_of_name zq_pn2) ?_
  intro p e s m below meth c s₁ hx hZ hby hml hret hlk hown hnm X0 e0
  refine zq_go (fun _ kq => castTop (zq_ef4 m a k0 k1) kq) ?_
  have NF := Fr.nil n0
  have KP := Keep.refl h0 [a]
  have ZS : 0 ≤ h0.size := Nat.zero_le _
  show zq_Go p e below s _ _ _ (s₁.setTop (mkF m 0 #[.val (.ref a), .val (.long k0), .second, .val (.long k1), .second] []))
  refine zq_go (fun _ kq => XS.aloadN X0.here hx rfl (hb hby zq_d4_0) rfl rfl kq) ?_
  show zq_Go p e below s _ _ _ (s₁.setTop (mkF m 1 #[.val (.ref a), .val (.long k0), .second, .val (.long k1), .second] [(.ref a)]))
  obtain ⟨T1, X1, e1, st1⟩ := initO X0 hx hZ hown (hw _ (List.mem_of_getElem? (i := 25) rfl)) (hw _ (List.mem_of_getElem? (i := 8) rfl)) (hw _ (List.mem_of_getElem? (i := 9) rfl)) e0 (g := (mkF m 1 #[.val (.ref a), .val (.long k0), .second, .val (.long k1), .second] [(.ref a)])) rfl (by rw [hml]; rfl) rfl (hb hby zq_d4_1) (by decide) (W := 0) (by show 2 * 0 + _ ≤ _; exact Nat.le_of_eq rfl) (by decide)
  refine zq_go st1 ?_
  show zq_Go p e below s _ _ _ (T1.setTop (mkF m 4 #[.val (.ref a), .val (.long k0), .second, .val (.long k1), .second] []))
  refine zq_go (fun _ kq => XS.aloadN X1.here hx rfl (hb hby zq_d4_4) rfl rfl kq) ?_
  show zq_Go p e below s _ _ _ (T1.setTop (mkF m 5 #[.val (.ref a), .val (.long k0), .second, .val (.long k1), .second] [(.ref a)]))
  refine zq_go (fun _ kq => XS.lloadN X1.here hx rfl (hb hby zq_d4_5) rfl kq) ?_
  show zq_Go p e below s _ _ _ (T1.setTop (mkF m 6 #[.val (.ref a), .val (.long k0), .second, .val (.long k1), .second] [(.long k0), (.ref a)]))
  refine zq_go (X1.ldc2Long hx hown (mvT hZ (hw _ (List.mem_of_getElem? (i := 26) rfl))) (g := (mkF m 6 #[.val (.ref a), .val (.long k0), .second, .val (.long k1), .second] [(.long k0), (.ref a)])) rfl (hb hby zq_d4_6)) ?_
  show zq_Go p e below s _ _ _ (T1.setTop (mkF m 9 #[.val (.ref a), .val (.long k0), .second, .val (.long k1), .second] [(.long (8317987319222330741 : Int64)), (.long k0), (.ref a)]))
  refine zq_go (fun _ kq => XS.lxor X1.here hx rfl (hb hby zq_d4_9) rfl kq) ?_
  show zq_Go p e below s _ _ _ (T1.setTop (mkF m 10 #[.val (.ref a), .val (.long k0), .second, .val (.long k1), .second] [(.long (k0 ^^^ (8317987319222330741 : Int64))), (.ref a)]))
  obtain ⟨T2, h2, X2, e2, W2, st2⟩ := putF X1 hx hZ hown (host := "") (Or.inl (hw _ (List.mem_of_getElem? (i := 27) rfl))) Via.refl e1 F_v0_a E_a (Or.inl (hw _ (List.mem_of_getElem? (i := 28) rfl))) (hw _ (List.mem_of_getElem? (i := 20) rfl)) (ty := .long) (by decide) rfl rfl (g := (mkF m 10 #[.val (.ref a), .val (.long k0), .second, .val (.long k1), .second] [(.long (k0 ^^^ (8317987319222330741 : Int64))), (.ref a)])) rfl rfl (hb hby zq_d4_10)
  refine zq_go st2 ?_
  have E_a := E_a.wr W2
  have F_v0_a := F_v0_a.same W2
  have F_v1_a := F_v1_a.other W2 (Or.inr (slot_ne (Or.inl (hw _ (List.mem_of_getElem? (i := 31) rfl))) (Or.inl (hw _ (List.mem_of_getElem? (i := 28) rfl))) (by decide) (t := .long) (t' := .long) (by decide) (by decide)))
  have F_v2_a := F_v2_a.other W2 (Or.inr (slot_ne (Or.inl (hw _ (List.mem_of_getElem? (i := 34) rfl))) (Or.inl (hw _ (List.mem_of_getElem? (i := 28) rfl))) (by decide) (t := .long) (t' := .long) (by decide) (by decide)))
  have F_v3_a := F_v3_a.other W2 (Or.inr (slot_ne (Or.inl (hw _ (List.mem_of_getElem? (i := 37) rfl))) (Or.inl (hw _ (List.mem_of_getElem? (i := 28) rfl))) (by decide) (t := .long) (t' := .long) (by decide) (by decide)))
  have ZS := Nat.le_trans ZS (Keep.of_wr W2).1
  have KP := KP.wr W2 (Or.inl (by simp))
  obtain ⟨L2, X2, NF⟩ : ∃ L : List Loc, Stand p l e ({ frames := 1, cells := 0, slots := 0, locals := 12 } : Room) s m #[(.ref a), (.long k0), (.long k1)] below meth c T2 L 0 0 ∧ Fr n0 L := ⟨_, X2, Fr.snoc X2 NF g_a⟩
  show zq_Go p e below s _ _ _ (T2.setTop (mkF m 13 #[.val (.ref a), .val (.long k0), .second, .val (.long k1), .second] []))
  refine zq_go (fun _ kq => XS.aloadN X2.here hx rfl (hb hby zq_d4_13) rfl rfl kq) ?_
  show zq_Go p e below s _ _ _ (T2.setTop (mkF m 14 #[.val (.ref a), .val (.long k0), .second, .val (.long k1), .second] [(.ref a)]))
  refine zq_go (fun _ kq => XS.lloadN X2.here hx rfl (hb hby zq_d4_14) rfl kq) ?_
  show zq_Go p e below s _ _ _ (T2.setTop (mkF m 15 #[.val (.ref a), .val (.long k0), .second, .val (.long k1), .second] [(.long k1), (.ref a)]))
  refine zq_go (X2.ldc2Long hx hown (mvT hZ (hw _ (List.mem_of_getElem? (i := 29) rfl))) (g := (mkF m 15 #[.val (.ref a), .val (.long k0), .second, .val (.long k1), .second] [(.long k1), (.ref a)])) rfl (hb hby zq_d4_15)) ?_
  show zq_Go p e below s _ _ _ (T2.setTop (mkF m 18 #[.val (.ref a), .val (.long k0), .second, .val (.long k1), .second] [(.long (7237128888997146477 : Int64)), (.long k1), (.ref a)]))
  refine zq_go (fun _ kq => XS.lxor X2.here hx rfl (hb hby zq_d4_18) rfl kq) ?_
  show zq_Go p e below s _ _ _ (T2.setTop (mkF m 19 #[.val (.ref a), .val (.long k0), .second, .val (.long k1), .second] [(.long (k1 ^^^ (7237128888997146477 : Int64))), (.ref a)]))
  obtain ⟨T3, h3, X3, e3, W3, st3⟩ := putF X2 hx hZ hown (host := "") (Or.inl (hw _ (List.mem_of_getElem? (i := 30) rfl))) Via.refl e2 F_v1_a E_a (Or.inl (hw _ (List.mem_of_getElem? (i := 31) rfl))) (hw _ (List.mem_of_getElem? (i := 20) rfl)) (ty := .long) (by decide) rfl rfl (g := (mkF m 19 #[.val (.ref a), .val (.long k0), .second, .val (.long k1), .second] [(.long (k1 ^^^ (7237128888997146477 : Int64))), (.ref a)])) rfl rfl (hb hby zq_d4_19)
  refine zq_go st3 ?_
  have E_a := E_a.wr W3
  have F_v0_a := F_v0_a.other W3 (Or.inr (slot_ne (Or.inl (hw _ (List.mem_of_getElem? (i := 28) rfl))) (Or.inl (hw _ (List.mem_of_getElem? (i := 31) rfl))) (by decide) (t := .long) (t' := .long) (by decide) (by decide)))
  have F_v1_a := F_v1_a.same W3
  have F_v2_a := F_v2_a.other W3 (Or.inr (slot_ne (Or.inl (hw _ (List.mem_of_getElem? (i := 34) rfl))) (Or.inl (hw _ (List.mem_of_getElem? (i := 31) rfl))) (by decide) (t := .long) (t' := .long) (by decide) (by decide)))
  have F_v3_a := F_v3_a.other W3 (Or.inr (slot_ne (Or.inl (hw _ (List.mem_of_getElem? (i := 37) rfl))) (Or.inl (hw _ (List.mem_of_getElem? (i := 31) rfl))) (by decide) (t := .long) (t' := .long) (by decide) (by decide)))
  have ZS := Nat.le_trans ZS (Keep.of_wr W3).1
  have KP := KP.wr W3 (Or.inl (by simp))
  obtain ⟨L3, X3, NF⟩ : ∃ L : List Loc, Stand p l e ({ frames := 1, cells := 0, slots := 0, locals := 12 } : Room) s m #[(.ref a), (.long k0), (.long k1)] below meth c T3 L 0 0 ∧ Fr n0 L := ⟨_, X3, Fr.snoc X3 NF g_a⟩
  show zq_Go p e below s _ _ _ (T3.setTop (mkF m 22 #[.val (.ref a), .val (.long k0), .second, .val (.long k1), .second] []))
  refine zq_go (fun _ kq => XS.aloadN X3.here hx rfl (hb hby zq_d4_22) rfl rfl kq) ?_
  show zq_Go p e below s _ _ _ (T3.setTop (mkF m 23 #[.val (.ref a), .val (.long k0), .second, .val (.long k1), .second] [(.ref a)]))
  refine zq_go (fun _ kq => XS.lloadN X3.here hx rfl (hb hby zq_d4_23) rfl kq) ?_
  show zq_Go p e below s _ _ _ (T3.setTop (mkF m 24 #[.val (.ref a), .val (.long k0), .second, .val (.long k1), .second] [(.long k0), (.ref a)]))
  refine zq_go (X3.ldc2Long hx hown (mvT hZ (hw _ (List.mem_of_getElem? (i := 32) rfl))) (g := (mkF m 24 #[.val (.ref a), .val (.long k0), .second, .val (.long k1), .second] [(.long k0), (.ref a)])) rfl (hb hby zq_d4_24)) ?_
  show zq_Go p e below s _ _ _ (T3.setTop (mkF m 27 #[.val (.ref a), .val (.long k0), .second, .val (.long k1), .second] [(.long (7816392313619706465 : Int64)), (.long k0), (.ref a)]))
  refine zq_go (fun _ kq => XS.lxor X3.here hx rfl (hb hby zq_d4_27) rfl kq) ?_
  show zq_Go p e below s _ _ _ (T3.setTop (mkF m 28 #[.val (.ref a), .val (.long k0), .second, .val (.long k1), .second] [(.long (k0 ^^^ (7816392313619706465 : Int64))), (.ref a)]))
  obtain ⟨T4, h4, X4, e4, W4, st4⟩ := putF X3 hx hZ hown (host := "") (Or.inl (hw _ (List.mem_of_getElem? (i := 33) rfl))) Via.refl e3 F_v2_a E_a (Or.inl (hw _ (List.mem_of_getElem? (i := 34) rfl))) (hw _ (List.mem_of_getElem? (i := 20) rfl)) (ty := .long) (by decide) rfl rfl (g := (mkF m 28 #[.val (.ref a), .val (.long k0), .second, .val (.long k1), .second] [(.long (k0 ^^^ (7816392313619706465 : Int64))), (.ref a)])) rfl rfl (hb hby zq_d4_28)
  refine zq_go st4 ?_
  have E_a := E_a.wr W4
  have F_v0_a := F_v0_a.other W4 (Or.inr (slot_ne (Or.inl (hw _ (List.mem_of_getElem? (i := 28) rfl))) (Or.inl (hw _ (List.mem_of_getElem? (i := 34) rfl))) (by decide) (t := .long) (t' := .long) (by decide) (by decide)))
  have F_v1_a := F_v1_a.other W4 (Or.inr (slot_ne (Or.inl (hw _ (List.mem_of_getElem? (i := 31) rfl))) (Or.inl (hw _ (List.mem_of_getElem? (i := 34) rfl))) (by decide) (t := .long) (t' := .long) (by decide) (by decide)))
  have F_v2_a := F_v2_a.same W4
  have F_v3_a := F_v3_a.other W4 (Or.inr (slot_ne (Or.inl (hw _ (List.mem_of_getElem? (i := 37) rfl))) (Or.inl (hw _ (List.mem_of_getElem? (i := 34) rfl))) (by decide) (t := .long) (t' := .long) (by decide) (by decide)))
  have ZS := Nat.le_trans ZS (Keep.of_wr W4).1
  have KP := KP.wr W4 (Or.inl (by simp))
  obtain ⟨L4, X4, NF⟩ : ∃ L : List Loc, Stand p l e ({ frames := 1, cells := 0, slots := 0, locals := 12 } : Room) s m #[(.ref a), (.long k0), (.long k1)] below meth c T4 L 0 0 ∧ Fr n0 L := ⟨_, X4, Fr.snoc X4 NF g_a⟩
  show zq_Go p e below s _ _ _ (T4.setTop (mkF m 31 #[.val (.ref a), .val (.long k0), .second, .val (.long k1), .second] []))
  refine zq_go (fun _ kq => XS.aloadN X4.here hx rfl (hb hby zq_d4_31) rfl rfl kq) ?_
  show zq_Go p e below s _ _ _ (T4.setTop (mkF m 32 #[.val (.ref a), .val (.long k0), .second, .val (.long k1), .second] [(.ref a)]))
  refine zq_go (fun _ kq => XS.lloadN X4.here hx rfl (hb hby zq_d4_32) rfl kq) ?_
  show zq_Go p e below s _ _ _ (T4.setTop (mkF m 33 #[.val (.ref a), .val (.long k0), .second, .val (.long k1), .second] [(.long k1), (.ref a)]))
  refine zq_go (X4.ldc2Long hx hown (mvT hZ (hw _ (List.mem_of_getElem? (i := 35) rfl))) (g := (mkF m 33 #[.val (.ref a), .val (.long k0), .second, .val (.long k1), .second] [(.long k1), (.ref a)])) rfl (hb hby zq_d4_33)) ?_
  show zq_Go p e below s _ _ _ (T4.setTop (mkF m 36 #[.val (.ref a), .val (.long k0), .second, .val (.long k1), .second] [(.long (8387220255154660723 : Int64)), (.long k1), (.ref a)]))
  refine zq_go (fun _ kq => XS.lxor X4.here hx rfl (hb hby zq_d4_36) rfl kq) ?_
  show zq_Go p e below s _ _ _ (T4.setTop (mkF m 37 #[.val (.ref a), .val (.long k0), .second, .val (.long k1), .second] [(.long (k1 ^^^ (8387220255154660723 : Int64))), (.ref a)]))
  obtain ⟨T5, h5, X5, e5, W5, st5⟩ := putF X4 hx hZ hown (host := "") (Or.inl (hw _ (List.mem_of_getElem? (i := 36) rfl))) Via.refl e4 F_v3_a E_a (Or.inl (hw _ (List.mem_of_getElem? (i := 37) rfl))) (hw _ (List.mem_of_getElem? (i := 20) rfl)) (ty := .long) (by decide) rfl rfl (g := (mkF m 37 #[.val (.ref a), .val (.long k0), .second, .val (.long k1), .second] [(.long (k1 ^^^ (8387220255154660723 : Int64))), (.ref a)])) rfl rfl (hb hby zq_d4_37)
  refine zq_go st5 ?_
  have E_a := E_a.wr W5
  have F_v0_a := F_v0_a.other W5 (Or.inr (slot_ne (Or.inl (hw _ (List.mem_of_getElem? (i := 28) rfl))) (Or.inl (hw _ (List.mem_of_getElem? (i := 37) rfl))) (by decide) (t := .long) (t' := .long) (by decide) (by decide)))
  have F_v1_a := F_v1_a.other W5 (Or.inr (slot_ne (Or.inl (hw _ (List.mem_of_getElem? (i := 31) rfl))) (Or.inl (hw _ (List.mem_of_getElem? (i := 37) rfl))) (by decide) (t := .long) (t' := .long) (by decide) (by decide)))
  have F_v2_a := F_v2_a.other W5 (Or.inr (slot_ne (Or.inl (hw _ (List.mem_of_getElem? (i := 34) rfl))) (Or.inl (hw _ (List.mem_of_getElem? (i := 37) rfl))) (by decide) (t := .long) (t' := .long) (by decide) (by decide)))
  have F_v3_a := F_v3_a.same W5
  have ZS := Nat.le_trans ZS (Keep.of_wr W5).1
  have KP := KP.wr W5 (Or.inl (by simp))
  obtain ⟨L5, X5, NF⟩ : ∃ L : List Loc, Stand p l e ({ frames := 1, cells := 0, slots := 0, locals := 12 } : Room) s m #[(.ref a), (.long k0), (.long k1)] below meth c T5 L 0 0 ∧ Fr n0 L := ⟨_, X5, Fr.snoc X5 NF g_a⟩
  show zq_Go p e below s _ _ _ (T5.setTop (mkF m 40 #[.val (.ref a), .val (.long k0), .second, .val (.long k1), .second] []))
  exact zq_ret0 X5 hx hlk hret (hb hby zq_d4_40) (by rw [e5]; exact ⟨rfl, NF, KP, F_v0_a, F_v1_a, F_v2_a, F_v3_a⟩) (by decide) (by decide)
theorem zq_pd3 : parseMethodDescriptor "(JI)J" = some ⟨[.long, .int], some .long⟩ := by decide +kernel
theorem zq_d7_0 : decode prog_79_method_4_code 0 = .ok (.aload_n 0, 1) := by decide +kernel
theorem zq_d7_1 : decode prog_79_method_4_code 1 = .ok (.dup, 1) := by decide +kernel
theorem zq_d7_2 : decode prog_79_method_4_code 2 = .ok (.getfield 9, 3) := by decide +kernel
theorem zq_d7_5 : decode prog_79_method_4_code 5 = .ok (.aload_n 0, 1) := by decide +kernel
theorem zq_d7_6 : decode prog_79_method_4_code 6 = .ok (.getfield 17, 3) := by decide +kernel
theorem zq_d7_9 : decode prog_79_method_4_code 9 = .ok (.ladd, 1) := by decide +kernel
theorem zq_d7_10 : decode prog_79_method_4_code 10 = .ok (.putfield 9, 3) := by decide +kernel
theorem zq_d7_13 : decode prog_79_method_4_code 13 = .ok (.aload_n 0, 1) := by decide +kernel
theorem zq_d7_14 : decode prog_79_method_4_code 14 = .ok (.aload_n 0, 1) := by decide +kernel
theorem zq_d7_15 : decode prog_79_method_4_code 15 = .ok (.getfield 17, 3) := by decide +kernel
theorem zq_d7_18 : decode prog_79_method_4_code 18 = .ok (.bipush 13, 2) := by decide +kernel
theorem zq_d7_20 : decode prog_79_method_4_code 20 = .ok (.invokestatic 39, 3) := by decide +kernel
theorem zq_d7_23 : decode prog_79_method_4_code 23 = .ok (.aload_n 0, 1) := by decide +kernel
theorem zq_d7_24 : decode prog_79_method_4_code 24 = .ok (.getfield 9, 3) := by decide +kernel
theorem zq_d7_27 : decode prog_79_method_4_code 27 = .ok (.lxor, 1) := by decide +kernel
theorem zq_d7_28 : decode prog_79_method_4_code 28 = .ok (.putfield 17, 3) := by decide +kernel
theorem zq_d7_31 : decode prog_79_method_4_code 31 = .ok (.aload_n 0, 1) := by decide +kernel
theorem zq_d7_32 : decode prog_79_method_4_code 32 = .ok (.aload_n 0, 1) := by decide +kernel
theorem zq_d7_33 : decode prog_79_method_4_code 33 = .ok (.getfield 9, 3) := by decide +kernel
theorem zq_d7_36 : decode prog_79_method_4_code 36 = .ok (.bipush 32, 2) := by decide +kernel
theorem zq_d7_38 : decode prog_79_method_4_code 38 = .ok (.invokestatic 39, 3) := by decide +kernel
theorem zq_d7_41 : decode prog_79_method_4_code 41 = .ok (.putfield 9, 3) := by decide +kernel
theorem zq_d7_44 : decode prog_79_method_4_code 44 = .ok (.aload_n 0, 1) := by decide +kernel
theorem zq_d7_45 : decode prog_79_method_4_code 45 = .ok (.dup, 1) := by decide +kernel
theorem zq_d7_46 : decode prog_79_method_4_code 46 = .ok (.getfield 22, 3) := by decide +kernel
theorem zq_d7_49 : decode prog_79_method_4_code 49 = .ok (.aload_n 0, 1) := by decide +kernel
theorem zq_d7_50 : decode prog_79_method_4_code 50 = .ok (.getfield 27, 3) := by decide +kernel
theorem zq_d7_53 : decode prog_79_method_4_code 53 = .ok (.ladd, 1) := by decide +kernel
theorem zq_d7_54 : decode prog_79_method_4_code 54 = .ok (.putfield 22, 3) := by decide +kernel
theorem zq_d7_57 : decode prog_79_method_4_code 57 = .ok (.aload_n 0, 1) := by decide +kernel
theorem zq_d7_58 : decode prog_79_method_4_code 58 = .ok (.aload_n 0, 1) := by decide +kernel
theorem zq_d7_59 : decode prog_79_method_4_code 59 = .ok (.getfield 27, 3) := by decide +kernel
theorem zq_d7_62 : decode prog_79_method_4_code 62 = .ok (.bipush 16, 2) := by decide +kernel
theorem zq_d7_64 : decode prog_79_method_4_code 64 = .ok (.invokestatic 39, 3) := by decide +kernel
theorem zq_d7_67 : decode prog_79_method_4_code 67 = .ok (.aload_n 0, 1) := by decide +kernel
theorem zq_d7_68 : decode prog_79_method_4_code 68 = .ok (.getfield 22, 3) := by decide +kernel
theorem zq_d7_71 : decode prog_79_method_4_code 71 = .ok (.lxor, 1) := by decide +kernel
theorem zq_d7_72 : decode prog_79_method_4_code 72 = .ok (.putfield 27, 3) := by decide +kernel
theorem zq_d7_75 : decode prog_79_method_4_code 75 = .ok (.aload_n 0, 1) := by decide +kernel
theorem zq_d7_76 : decode prog_79_method_4_code 76 = .ok (.dup, 1) := by decide +kernel
theorem zq_d7_77 : decode prog_79_method_4_code 77 = .ok (.getfield 9, 3) := by decide +kernel
theorem zq_d7_80 : decode prog_79_method_4_code 80 = .ok (.aload_n 0, 1) := by decide +kernel
theorem zq_d7_81 : decode prog_79_method_4_code 81 = .ok (.getfield 27, 3) := by decide +kernel
theorem zq_d7_84 : decode prog_79_method_4_code 84 = .ok (.ladd, 1) := by decide +kernel
theorem zq_d7_85 : decode prog_79_method_4_code 85 = .ok (.putfield 9, 3) := by decide +kernel
theorem zq_d7_88 : decode prog_79_method_4_code 88 = .ok (.aload_n 0, 1) := by decide +kernel
theorem zq_d7_89 : decode prog_79_method_4_code 89 = .ok (.aload_n 0, 1) := by decide +kernel
theorem zq_d7_90 : decode prog_79_method_4_code 90 = .ok (.getfield 27, 3) := by decide +kernel
theorem zq_d7_93 : decode prog_79_method_4_code 93 = .ok (.bipush 21, 2) := by decide +kernel
theorem zq_d7_95 : decode prog_79_method_4_code 95 = .ok (.invokestatic 39, 3) := by decide +kernel
theorem zq_d7_98 : decode prog_79_method_4_code 98 = .ok (.aload_n 0, 1) := by decide +kernel
theorem zq_d7_99 : decode prog_79_method_4_code 99 = .ok (.getfield 9, 3) := by decide +kernel
theorem zq_d7_102 : decode prog_79_method_4_code 102 = .ok (.lxor, 1) := by decide +kernel
theorem zq_d7_103 : decode prog_79_method_4_code 103 = .ok (.putfield 27, 3) := by decide +kernel
theorem zq_d7_106 : decode prog_79_method_4_code 106 = .ok (.aload_n 0, 1) := by decide +kernel
theorem zq_d7_107 : decode prog_79_method_4_code 107 = .ok (.dup, 1) := by decide +kernel
theorem zq_d7_108 : decode prog_79_method_4_code 108 = .ok (.getfield 22, 3) := by decide +kernel
theorem zq_d7_111 : decode prog_79_method_4_code 111 = .ok (.aload_n 0, 1) := by decide +kernel
theorem zq_d7_112 : decode prog_79_method_4_code 112 = .ok (.getfield 17, 3) := by decide +kernel
theorem zq_d7_115 : decode prog_79_method_4_code 115 = .ok (.ladd, 1) := by decide +kernel
theorem zq_d7_116 : decode prog_79_method_4_code 116 = .ok (.putfield 22, 3) := by decide +kernel
theorem zq_d7_119 : decode prog_79_method_4_code 119 = .ok (.aload_n 0, 1) := by decide +kernel
theorem zq_d7_120 : decode prog_79_method_4_code 120 = .ok (.aload_n 0, 1) := by decide +kernel
theorem zq_d7_121 : decode prog_79_method_4_code 121 = .ok (.getfield 17, 3) := by decide +kernel
theorem zq_d7_124 : decode prog_79_method_4_code 124 = .ok (.bipush 17, 2) := by decide +kernel
theorem zq_d7_126 : decode prog_79_method_4_code 126 = .ok (.invokestatic 39, 3) := by decide +kernel
theorem zq_d7_129 : decode prog_79_method_4_code 129 = .ok (.aload_n 0, 1) := by decide +kernel
theorem zq_d7_130 : decode prog_79_method_4_code 130 = .ok (.getfield 22, 3) := by decide +kernel
theorem zq_d7_133 : decode prog_79_method_4_code 133 = .ok (.lxor, 1) := by decide +kernel
theorem zq_d7_134 : decode prog_79_method_4_code 134 = .ok (.putfield 17, 3) := by decide +kernel
theorem zq_d7_137 : decode prog_79_method_4_code 137 = .ok (.aload_n 0, 1) := by decide +kernel
theorem zq_d7_138 : decode prog_79_method_4_code 138 = .ok (.aload_n 0, 1) := by decide +kernel
theorem zq_d7_139 : decode prog_79_method_4_code 139 = .ok (.getfield 22, 3) := by decide +kernel
theorem zq_d7_142 : decode prog_79_method_4_code 142 = .ok (.bipush 32, 2) := by decide +kernel
theorem zq_d7_144 : decode prog_79_method_4_code 144 = .ok (.invokestatic 39, 3) := by decide +kernel
theorem zq_d7_147 : decode prog_79_method_4_code 147 = .ok (.putfield 22, 3) := by decide +kernel
theorem zq_d7_150 : decode prog_79_method_4_code 150 = .ok (.return_, 1) := by decide +kernel
theorem zq_ef7 (m : MethodId) (x0 : Addr) : entryFrame m #[(.ref x0)] 1 = mkF m 0 #[.val (.ref x0)] [] := by first | (simp [entryFrame, mkF, argsToLocals, Value.category]; done) | rfl
set_option maxRecDepth 65536 in
set_option maxHeartbeats 40000000 in
theorem zq_rmSR (l : Launch) (Z : State) (a0 : Array Value) (hw : ∀ d ∈ tables_1, d.before a0 Z = true) (ws : List Jvm.Cond) (a : Addr) (h0 : Heap) (n0 : Nat) (v : zq_V) (E_a : Exa Z h0 a "com/example/clearline/clearline/formats/TableHash$Sip") (F_v0_a : Fld Z h0 a "com/example/clearline/clearline/formats/TableHash$Sip" "v0" "J" (.long v.1)) (F_v1_a : Fld Z h0 a "com/example/clearline/clearline/formats/TableHash$Sip" "v1" "J" (.long v.2.1)) (F_v2_a : Fld Z h0 a "com/example/clearline/clearline/formats/TableHash$Sip" "v2" "J" (.long v.2.2.1)) (F_v3_a : Fld Z h0 a "com/example/clearline/clearline/formats/TableHash$Sip" "v3" "J" (.long v.2.2.2)) (g_a : n0 ≤ a) :
    zq_Met l Z (⟨"com/example/clearline/clearline/formats/TableHash$Sip", "round", "()V"⟩ : MethodName) prog_79_method_4_code 1 none ws ({ frames := 1, cells := 0, slots := 0, locals := 15 } : Room) #[(.ref a)] h0 (fun r h L => r = none ∧ Fr n0 L ∧ Keep h0 h [a] ∧ Fld Z h a "com/example/clearline/clearline/formats/TableHash$Sip" "v0" "J" (.long (zq_rd v).1) ∧ Fld Z h a "com/example/clearline/clearline/formats/TableHash$Sip" "v1" "J" (.long (zq_rd v).2.1) ∧ Fld Z h a "com/example/clearline/clearline/formats/TableHash$Sip" "v2" "J" (.long (zq_rd v).2.2.1) ∧ Fld Z h a "com/example/clearline/clearline/formats/TableHash$Sip" "v3" "J" (.long (zq_rd v).2.2.2)) := by
  refine zq_body (plainFor_of_name zq_pn2) ?_
  intro p e s m below meth c s₁ hx hZ hby hml hret hlk hown hnm X0 e0
  refine zq_go (fun _ kq => castTop (zq_ef7 m a) kq) ?_
  have NF := Fr.nil n0
  have KP := Keep.refl h0 [a]
  have ZS : 0 ≤ h0.size := Nat.zero_le _
  show zq_Go p e below s _ _ _ (s₁.setTop (mkF m 0 #[.val (.ref a)] []))
  refine zq_go (fun _ kq => XS.aloadN X0.here hx rfl (hb hby zq_d7_0) rfl rfl kq) ?_
  show zq_Go p e below s _ _ _ (s₁.setTop (mkF m 1 #[.val (.ref a)] [(.ref a)]))
  refine zq_go (fun _ kq => XS.dup X0.here hx rfl (hb hby zq_d7_1) rfl rfl kq) ?_
  show zq_Go p e below s _ _ _ (s₁.setTop (mkF m 2 #[.val (.ref a)] [(.ref a), (.ref a)]))
  obtain ⟨T1, X1, e1, st1⟩ := getF X0 hx hZ hown (host := "") (Or.inl (hw _ (List.mem_of_getElem? (i := 27) rfl))) Via.refl e0 F_v0_a (g := (mkF m 2 #[.val (.ref a)] [(.ref a), (.ref a)])) rfl rfl (hb hby zq_d7_2)
  refine zq_go st1 ?_
  show zq_Go p e below s _ _ _ (T1.setTop (mkF m 5 #[.val (.ref a)] [(.long v.1), (.ref a)]))
  refine zq_go (fun _ kq => XS.aloadN X1.here hx rfl (hb hby zq_d7_5) rfl rfl kq) ?_
  show zq_Go p e below s _ _ _ (T1.setTop (mkF m 6 #[.val (.ref a)] [(.ref a), (.long v.1), (.ref a)]))
  obtain ⟨T2, X2, e2, st2⟩ := getF X1 hx hZ hown (host := "") (Or.inl (hw _ (List.mem_of_getElem? (i := 30) rfl))) Via.refl e1 F_v1_a (g := (mkF m 6 #[.val (.ref a)] [(.ref a), (.long v.1), (.ref a)])) rfl rfl (hb hby zq_d7_6)
  refine zq_go st2 ?_
  show zq_Go p e below s _ _ _ (T2.setTop (mkF m 9 #[.val (.ref a)] [(.long v.2.1), (.long v.1), (.ref a)]))
  refine zq_go (fun _ kq => XS.ladd X2.here hx rfl (hb hby zq_d7_9) rfl kq) ?_
  show zq_Go p e below s _ _ _ (T2.setTop (mkF m 10 #[.val (.ref a)] [(.long (v.1 + v.2.1)), (.ref a)]))
  obtain ⟨T3, h3, X3, e3, W3, st3⟩ := putF X2 hx hZ hown (host := "") (Or.inl (hw _ (List.mem_of_getElem? (i := 27) rfl))) Via.refl e2 F_v0_a E_a (Or.inl (hw _ (List.mem_of_getElem? (i := 28) rfl))) (hw _ (List.mem_of_getElem? (i := 20) rfl)) (ty := .long) (by decide) rfl rfl (g := (mkF m 10 #[.val (.ref a)] [(.long (v.1 + v.2.1)), (.ref a)])) rfl rfl (hb hby zq_d7_10)
  refine zq_go st3 ?_
  have E_a := E_a.wr W3
  have F_v0_a := F_v0_a.same W3
  have F_v1_a := F_v1_a.other W3 (Or.inr (slot_ne (Or.inl (hw _ (List.mem_of_getElem? (i := 31) rfl))) (Or.inl (hw _ (List.mem_of_getElem? (i := 28) rfl))) (by decide) (t := .long) (t' := .long) (by decide) (by decide)))
  have F_v2_a := F_v2_a.other W3 (Or.inr (slot_ne (Or.inl (hw _ (List.mem_of_getElem? (i := 34) rfl))) (Or.inl (hw _ (List.mem_of_getElem? (i := 28) rfl))) (by decide) (t := .long) (t' := .long) (by decide) (by decide)))
  have F_v3_a := F_v3_a.other W3 (Or.inr (slot_ne (Or.inl (hw _ (List.mem_of_getElem? (i := 37) rfl))) (Or.inl (hw _ (List.mem_of_getElem? (i := 28) rfl))) (by decide) (t := .long) (t' := .long) (by decide) (by decide)))
  have ZS := Nat.le_trans ZS (Keep.of_wr W3).1
  have KP := KP.wr W3 (Or.inl (by simp))
  obtain ⟨L3, X3, NF⟩ : ∃ L : List Loc, Stand p l e ({ frames := 1, cells := 0, slots := 0, locals := 15 } : Room) s m #[(.ref a)] below meth c T3 L 0 0 ∧ Fr n0 L := ⟨_, X3, Fr.snoc X3 NF g_a⟩
  show zq_Go p e below s _ _ _ (T3.setTop (mkF m 13 #[.val (.ref a)] []))
  refine zq_go (fun _ kq => XS.aloadN X3.here hx rfl (hb hby zq_d7_13) rfl rfl kq) ?_
  show zq_Go p e below s _ _ _ (T3.setTop (mkF m 14 #[.val (.ref a)] [(.ref a)]))
  refine zq_go (fun _ kq => XS.aloadN X3.here hx rfl (hb hby zq_d7_14) rfl rfl kq) ?_
  show zq_Go p e below s _ _ _ (T3.setTop (mkF m 15 #[.val (.ref a)] [(.ref a), (.ref a)]))
  obtain ⟨T4, X4, e4, st4⟩ := getF X3 hx hZ hown (host := "") (Or.inl (hw _ (List.mem_of_getElem? (i := 30) rfl))) Via.refl e3 F_v1_a (g := (mkF m 15 #[.val (.ref a)] [(.ref a), (.ref a)])) rfl rfl (hb hby zq_d7_15)
  refine zq_go st4 ?_
  show zq_Go p e below s _ _ _ (T4.setTop (mkF m 18 #[.val (.ref a)] [(.long v.2.1), (.ref a)]))
  refine zq_go (fun _ kq => XS.bipush X4.here hx rfl (hb hby zq_d7_18) kq) ?_
  show zq_Go p e below s _ _ _ (T4.setTop (mkF m 20 #[.val (.ref a)] [(.int (13 : Int32)), (.long v.2.1), (.ref a)]))
  obtain ⟨T5, X5, e5, st5⟩ := zq_callP (W := 1) X4 hx hZ hown (hw _ (List.mem_of_getElem? (i := 52) rfl)) (hw _ (List.mem_of_getElem? (i := 53) rfl)) (hw _ (List.mem_of_getElem? (i := 54) rfl)) (hw _ (List.mem_of_getElem? (i := 55) rfl)) (by decide) (zq_rmL l Z a0 hw [] v.2.1 (13 : Int32) h3) e4 (by decide) (by decide) rfl rfl (by decide) (by decide) (g := (mkF m 20 #[.val (.ref a)] [(.int (13 : Int32)), (.long v.2.1), (.ref a)])) rfl (by rw [hml]; rfl) (argsL := [(.long v.2.1), (.int (13 : Int32))]) (rest := [(.ref a)]) (lenOf zq_pd3 rfl) rfl (by show 2 * 0 + _ ≤ _; exact Nat.le_of_eq rfl) (hb hby zq_d7_20)
  refine zq_go st5 ?_
  show zq_Go p e below s _ _ _ (T5.setTop (mkF m 23 #[.val (.ref a)] [(.long (zq_rl v.2.1 (13 : Int32))), (.ref a)]))
  refine zq_go (fun _ kq => XS.aloadN X5.here hx rfl (hb hby zq_d7_23) rfl rfl kq) ?_
  show zq_Go p e below s _ _ _ (T5.setTop (mkF m 24 #[.val (.ref a)] [(.ref a), (.long (zq_rl v.2.1 (13 : Int32))), (.ref a)]))
  obtain ⟨T6, X6, e6, st6⟩ := getF X5 hx hZ hown (host := "") (Or.inl (hw _ (List.mem_of_getElem? (i := 27) rfl))) Via.refl e5 F_v0_a (g := (mkF m 24 #[.val (.ref a)] [(.ref a), (.long (zq_rl v.2.1 (13 : Int32))), (.ref a)])) rfl rfl (hb hby zq_d7_24)
  refine zq_go st6 ?_
  show zq_Go p e below s _ _ _ (T6.setTop (mkF m 27 #[.val (.ref a)] [(.long (v.1 + v.2.1)), (.long (zq_rl v.2.1 (13 : Int32))), (.ref a)]))
  refine zq_go (fun _ kq => XS.lxor X6.here hx rfl (hb hby zq_d7_27) rfl kq) ?_
  show zq_Go p e below s _ _ _ (T6.setTop (mkF m 28 #[.val (.ref a)] [(.long ((zq_rl v.2.1 (13 : Int32)) ^^^ (v.1 + v.2.1))), (.ref a)]))
  obtain ⟨T7, h7, X7, e7, W7, st7⟩ := putF X6 hx hZ hown (host := "") (Or.inl (hw _ (List.mem_of_getElem? (i := 30) rfl))) Via.refl e6 F_v1_a E_a (Or.inl (hw _ (List.mem_of_getElem? (i := 31) rfl))) (hw _ (List.mem_of_getElem? (i := 20) rfl)) (ty := .long) (by decide) rfl rfl (g := (mkF m 28 #[.val (.ref a)] [(.long ((zq_rl v.2.1 (13 : Int32)) ^^^ (v.1 + v.2.1))), (.ref a)])) rfl rfl (hb hby zq_d7_28)
  refine zq_go st7 ?_
  have E_a := E_a.wr W7
  have F_v0_a := F_v0_a.other W7 (Or.inr (slot_ne (Or.inl (hw _ (List.mem_of_getElem? (i := 28) rfl))) (Or.inl (hw _ (List.mem_of_getElem? (i := 31) rfl))) (by decide) (t := .long) (t' := .long) (by decide) (by decide)))
  have F_v1_a := F_v1_a.same W7
  have F_v2_a := F_v2_a.other W7 (Or.inr (slot_ne (Or.inl (hw _ (List.mem_of_getElem? (i := 34) rfl))) (Or.inl (hw _ (List.mem_of_getElem? (i := 31) rfl))) (by decide) (t := .long) (t' := .long) (by decide) (by decide)))
  have F_v3_a := F_v3_a.other W7 (Or.inr (slot_ne (Or.inl (hw _ (List.mem_of_getElem? (i := 37) rfl))) (Or.inl (hw _ (List.mem_of_getElem? (i := 31) rfl))) (by decide) (t := .long) (t' := .long) (by decide) (by decide)))
  have ZS := Nat.le_trans ZS (Keep.of_wr W7).1
  have KP := KP.wr W7 (Or.inl (by simp))
  obtain ⟨L7, X7, NF⟩ : ∃ L : List Loc, Stand p l e ({ frames := 1, cells := 0, slots := 0, locals := 15 } : Room) s m #[(.ref a)] below meth c T7 L 0 0 ∧ Fr n0 L := ⟨_, X7, Fr.snoc X7 NF g_a⟩
  show zq_Go p e below s _ _ _ (T7.setTop (mkF m 31 #[.val (.ref a)] []))
  refine zq_go (fun _ kq => XS.aloadN X7.here hx rfl (hb hby zq_d7_31) rfl rfl kq) ?_
  show zq_Go p e below s _ _ _ (T7.setTop (mkF m 32 #[.val (.ref a)] [(.ref a)]))
  refine zq_go (fun _ kq => XS.aloadN X7.here hx rfl (hb hby zq_d7_32) rfl rfl kq) ?_
  show zq_Go p e below s _ _ _ (T7.setTop (mkF m 33 #[.val (.ref a)] [(.ref a), (.ref a)]))
  obtain ⟨T8, X8, e8, st8⟩ := getF X7 hx hZ hown (host := "") (Or.inl (hw _ (List.mem_of_getElem? (i := 27) rfl))) Via.refl e7 F_v0_a (g := (mkF m 33 #[.val (.ref a)] [(.ref a), (.ref a)])) rfl rfl (hb hby zq_d7_33)
  refine zq_go st8 ?_
  show zq_Go p e below s _ _ _ (T8.setTop (mkF m 36 #[.val (.ref a)] [(.long (v.1 + v.2.1)), (.ref a)]))
  refine zq_go (fun _ kq => XS.bipush X8.here hx rfl (hb hby zq_d7_36) kq) ?_
  show zq_Go p e below s _ _ _ (T8.setTop (mkF m 38 #[.val (.ref a)] [(.int (32 : Int32)), (.long (v.1 + v.2.1)), (.ref a)]))
  obtain ⟨T9, X9, e9, st9⟩ := zq_callP (W := 1) X8 hx hZ hown (hw _ (List.mem_of_getElem? (i := 52) rfl)) (hw _ (List.mem_of_getElem? (i := 53) rfl)) (hw _ (List.mem_of_getElem? (i := 54) rfl)) (hw _ (List.mem_of_getElem? (i := 55) rfl)) (by decide) (zq_rmL l Z a0 hw [] (v.1 + v.2.1) (32 : Int32) h7) e8 (by decide) (by decide) rfl rfl (by decide) (by decide) (g := (mkF m 38 #[.val (.ref a)] [(.int (32 : Int32)), (.long (v.1 + v.2.1)), (.ref a)])) rfl (by rw [hml]; rfl) (argsL := [(.long (v.1 + v.2.1)), (.int (32 : Int32))]) (rest := [(.ref a)]) (lenOf zq_pd3 rfl) rfl (by show 2 * 0 + _ ≤ _; exact Nat.le_of_eq rfl) (hb hby zq_d7_38)
  refine zq_go st9 ?_
  show zq_Go p e below s _ _ _ (T9.setTop (mkF m 41 #[.val (.ref a)] [(.long (zq_rl (v.1 + v.2.1) (32 : Int32))), (.ref a)]))
  obtain ⟨T10, h10, X10, e10, W10, st10⟩ := putF X9 hx hZ hown (host := "") (Or.inl (hw _ (List.mem_of_getElem? (i := 27) rfl))) Via.refl e9 F_v0_a E_a (Or.inl (hw _ (List.mem_of_getElem? (i := 28) rfl))) (hw _ (List.mem_of_getElem? (i := 20) rfl)) (ty := .long) (by decide) rfl rfl (g := (mkF m 41 #[.val (.ref a)] [(.long (zq_rl (v.1 + v.2.1) (32 : Int32))), (.ref a)])) rfl rfl (hb hby zq_d7_41)
  refine zq_go st10 ?_
  have E_a := E_a.wr W10
  have F_v0_a := F_v0_a.same W10
  have F_v1_a := F_v1_a.other W10 (Or.inr (slot_ne (Or.inl (hw _ (List.mem_of_getElem? (i := 31) rfl))) (Or.inl (hw _ (List.mem_of_getElem? (i := 28) rfl))) (by decide) (t := .long) (t' := .long) (by decide) (by decide)))
  have F_v2_a := F_v2_a.other W10 (Or.inr (slot_ne (Or.inl (hw _ (List.mem_of_getElem? (i := 34) rfl))) (Or.inl (hw _ (List.mem_of_getElem? (i := 28) rfl))) (by decide) (t := .long) (t' := .long) (by decide) (by decide)))
  have F_v3_a := F_v3_a.other W10 (Or.inr (slot_ne (Or.inl (hw _ (List.mem_of_getElem? (i := 37) rfl))) (Or.inl (hw _ (List.mem_of_getElem? (i := 28) rfl))) (by decide) (t := .long) (t' := .long) (by decide) (by decide)))
  have ZS := Nat.le_trans ZS (Keep.of_wr W10).1
  have KP := KP.wr W10 (Or.inl (by simp))
  obtain ⟨L10, X10, NF⟩ : ∃ L : List Loc, Stand p l e ({ frames := 1, cells := 0, slots := 0, locals := 15 } : Room) s m #[(.ref a)] below meth c T10 L 0 0 ∧ Fr n0 L := ⟨_, X10, Fr.snoc X10 NF g_a⟩
  show zq_Go p e below s _ _ _ (T10.setTop (mkF m 44 #[.val (.ref a)] []))
  refine zq_go (fun _ kq => XS.aloadN X10.here hx rfl (hb hby zq_d7_44) rfl rfl kq) ?_
  show zq_Go p e below s _ _ _ (T10.setTop (mkF m 45 #[.val (.ref a)] [(.ref a)]))
  refine zq_go (fun _ kq => XS.dup X10.here hx rfl (hb hby zq_d7_45) rfl rfl kq) ?_
  show zq_Go p e below s _ _ _ (T10.setTop (mkF m 46 #[.val (.ref a)] [(.ref a), (.ref a)]))
  obtain ⟨T11, X11, e11, st11⟩ := getF X10 hx hZ hown (host := "") (Or.inl (hw _ (List.mem_of_getElem? (i := 33) rfl))) Via.refl e10 F_v2_a (g := (mkF m 46 #[.val (.ref a)] [(.ref a), (.ref a)])) rfl rfl (hb hby zq_d7_46)
  refine zq_go st11 ?_
  show zq_Go p e below s _ _ _ (T11.setTop (mkF m 49 #[.val (.ref a)] [(.long v.2.2.1), (.ref a)]))
  refine zq_go (fun _ kq => XS.aloadN X11.here hx rfl (hb hby zq_d7_49) rfl rfl kq) ?_
  show zq_Go p e below s _ _ _ (T11.setTop (mkF m 50 #[.val (.ref a)] [(.ref a), (.long v.2.2.1), (.ref a)]))
  obtain ⟨T12, X12, e12, st12⟩ := getF X11 hx hZ hown (host := "") (Or.inl (hw _ (List.mem_of_getElem? (i := 36) rfl))) Via.refl e11 F_v3_a (g := (mkF m 50 #[.val (.ref a)] [(.ref a), (.long v.2.2.1), (.ref a)])) rfl rfl (hb hby zq_d7_50)
  refine zq_go st12 ?_
  show zq_Go p e below s _ _ _ (T12.setTop (mkF m 53 #[.val (.ref a)] [(.long v.2.2.2), (.long v.2.2.1), (.ref a)]))
  refine zq_go (fun _ kq => XS.ladd X12.here hx rfl (hb hby zq_d7_53) rfl kq) ?_
  show zq_Go p e below s _ _ _ (T12.setTop (mkF m 54 #[.val (.ref a)] [(.long (v.2.2.1 + v.2.2.2)), (.ref a)]))
  obtain ⟨T13, h13, X13, e13, W13, st13⟩ := putF X12 hx hZ hown (host := "") (Or.inl (hw _ (List.mem_of_getElem? (i := 33) rfl))) Via.refl e12 F_v2_a E_a (Or.inl (hw _ (List.mem_of_getElem? (i := 34) rfl))) (hw _ (List.mem_of_getElem? (i := 20) rfl)) (ty := .long) (by decide) rfl rfl (g := (mkF m 54 #[.val (.ref a)] [(.long (v.2.2.1 + v.2.2.2)), (.ref a)])) rfl rfl (hb hby zq_d7_54)
  refine zq_go st13 ?_
  have E_a := E_a.wr W13
  have F_v0_a := F_v0_a.other W13 (Or.inr (slot_ne (Or.inl (hw _ (List.mem_of_getElem? (i := 28) rfl))) (Or.inl (hw _ (List.mem_of_getElem? (i := 34) rfl))) (by decide) (t := .long) (t' := .long) (by decide) (by decide)))
  have F_v1_a := F_v1_a.other W13 (Or.inr (slot_ne (Or.inl (hw _ (List.mem_of_getElem? (i := 31) rfl))) (Or.inl (hw _ (List.mem_of_getElem? (i := 34) rfl))) (by decide) (t := .long) (t' := .long) (by decide) (by decide)))
  have F_v2_a := F_v2_a.same W13
  have F_v3_a := F_v3_a.other W13 (Or.inr (slot_ne (Or.inl (hw _ (List.mem_of_getElem? (i := 37) rfl))) (Or.inl (hw _ (List.mem_of_getElem? (i := 34) rfl))) (by decide) (t := .long) (t' := .long) (by decide) (by decide)))
  have ZS := Nat.le_trans ZS (Keep.of_wr W13).1
  have KP := KP.wr W13 (Or.inl (by simp))
  obtain ⟨L13, X13, NF⟩ : ∃ L : List Loc, Stand p l e ({ frames := 1, cells := 0, slots := 0, locals := 15 } : Room) s m #[(.ref a)] below meth c T13 L 0 0 ∧ Fr n0 L := ⟨_, X13, Fr.snoc X13 NF g_a⟩
  show zq_Go p e below s _ _ _ (T13.setTop (mkF m 57 #[.val (.ref a)] []))
  refine zq_go (fun _ kq => XS.aloadN X13.here hx rfl (hb hby zq_d7_57) rfl rfl kq) ?_
  show zq_Go p e below s _ _ _ (T13.setTop (mkF m 58 #[.val (.ref a)] [(.ref a)]))
  refine zq_go (fun _ kq => XS.aloadN X13.here hx rfl (hb hby zq_d7_58) rfl rfl kq) ?_
  show zq_Go p e below s _ _ _ (T13.setTop (mkF m 59 #[.val (.ref a)] [(.ref a), (.ref a)]))
  obtain ⟨T14, X14, e14, st14⟩ := getF X13 hx hZ hown (host := "") (Or.inl (hw _ (List.mem_of_getElem? (i := 36) rfl))) Via.refl e13 F_v3_a (g := (mkF m 59 #[.val (.ref a)] [(.ref a), (.ref a)])) rfl rfl (hb hby zq_d7_59)
  refine zq_go st14 ?_
  show zq_Go p e below s _ _ _ (T14.setTop (mkF m 62 #[.val (.ref a)] [(.long v.2.2.2), (.ref a)]))
  refine zq_go (fun _ kq => XS.bipush X14.here hx rfl (hb hby zq_d7_62) kq) ?_
  show zq_Go p e below s _ _ _ (T14.setTop (mkF m 64 #[.val (.ref a)] [(.int (16 : Int32)), (.long v.2.2.2), (.ref a)]))
  obtain ⟨T15, X15, e15, st15⟩ := zq_callP (W := 1) X14 hx hZ hown (hw _ (List.mem_of_getElem? (i := 52) rfl)) (hw _ (List.mem_of_getElem? (i := 53) rfl)) (hw _ (List.mem_of_getElem? (i := 54) rfl)) (hw _ (List.mem_of_getElem? (i := 55) rfl)) (by decide) (zq_rmL l Z a0 hw [] v.2.2.2 (16 : Int32) h13) e14 (by decide) (by decide) rfl rfl (by decide) (by decide) (g := (mkF m 64 #[.val (.ref a)] [(.int (16 : Int32)), (.long v.2.2.2), (.ref a)])) rfl (by rw [hml]; rfl) (argsL := [(.long v.2.2.2), (.int (16 : Int32))]) (rest := [(.ref a)]) (lenOf zq_pd3 rfl) rfl (by show 2 * 0 + _ ≤ _; exact Nat.le_of_eq rfl) (hb hby zq_d7_64)
  refine zq_go st15 ?_
  show zq_Go p e below s _ _ _ (T15.setTop (mkF m 67 #[.val (.ref a)] [(.long (zq_rl v.2.2.2 (16 : Int32))), (.ref a)]))
  refine zq_go (fun _ kq => XS.aloadN X15.here hx rfl (hb hby zq_d7_67) rfl rfl kq) ?_
  show zq_Go p e below s _ _ _ (T15.setTop (mkF m 68 #[.val (.ref a)] [(.ref a), (.long (zq_rl v.2.2.2 (16 : Int32))), (.ref a)]))
  obtain ⟨T16, X16, e16, st16⟩ := getF X15 hx hZ hown (host := "") (Or.inl (hw _ (List.mem_of_getElem? (i := 33) rfl))) Via.refl e15 F_v2_a (g := (mkF m 68 #[.val (.ref a)] [(.ref a), (.long (zq_rl v.2.2.2 (16 : Int32))), (.ref a)])) rfl rfl (hb hby zq_d7_68)
  refine zq_go st16 ?_
  show zq_Go p e below s _ _ _ (T16.setTop (mkF m 71 #[.val (.ref a)] [(.long (v.2.2.1 + v.2.2.2)), (.long (zq_rl v.2.2.2 (16 : Int32))), (.ref a)]))
  refine zq_go (fun _ kq => XS.lxor X16.here hx rfl (hb hby zq_d7_71) rfl kq) ?_
  show zq_Go p e below s _ _ _ (T16.setTop (mkF m 72 #[.val (.ref a)] [(.long ((zq_rl v.2.2.2 (16 : Int32)) ^^^ (v.2.2.1 + v.2.2.2))), (.ref a)]))
  obtain ⟨T17, h17, X17, e17, W17, st17⟩ := putF X16 hx hZ hown (host := "") (Or.inl (hw _ (List.mem_of_getElem? (i := 36) rfl))) Via.refl e16 F_v3_a E_a (Or.inl (hw _ (List.mem_of_getElem? (i := 37) rfl))) (hw _ (List.mem_of_getElem? (i := 20) rfl)) (ty := .long) (by decide) rfl rfl (g := (mkF m 72 #[.val (.ref a)] [(.long ((zq_rl v.2.2.2 (16 : Int32)) ^^^ (v.2.2.1 + v.2.2.2))), (.ref a)])) rfl rfl (hb hby zq_d7_72)
  refine zq_go st17 ?_
  have E_a := E_a.wr W17
  have F_v0_a := F_v0_a.other W17 (Or.inr (slot_ne (Or.inl (hw _ (List.mem_of_getElem? (i := 28) rfl))) (Or.inl (hw _ (List.mem_of_getElem? (i := 37) rfl))) (by decide) (t := .long) (t' := .long) (by decide) (by decide)))
  have F_v1_a := F_v1_a.other W17 (Or.inr (slot_ne (Or.inl (hw _ (List.mem_of_getElem? (i := 31) rfl))) (Or.inl (hw _ (List.mem_of_getElem? (i := 37) rfl))) (by decide) (t := .long) (t' := .long) (by decide) (by decide)))
  have F_v2_a := F_v2_a.other W17 (Or.inr (slot_ne (Or.inl (hw _ (List.mem_of_getElem? (i := 34) rfl))) (Or.inl (hw _ (List.mem_of_getElem? (i := 37) rfl))) (by decide) (t := .long) (t' := .long) (by decide) (by decide)))
  have F_v3_a := F_v3_a.same W17
  have ZS := Nat.le_trans ZS (Keep.of_wr W17).1
  have KP := KP.wr W17 (Or.inl (by simp))
  obtain ⟨L17, X17, NF⟩ : ∃ L : List Loc, Stand p l e ({ frames := 1, cells := 0, slots := 0, locals := 15 } : Room) s m #[(.ref a)] below meth c T17 L 0 0 ∧ Fr n0 L := ⟨_, X17, Fr.snoc X17 NF g_a⟩
  show zq_Go p e below s _ _ _ (T17.setTop (mkF m 75 #[.val (.ref a)] []))
  refine zq_go (fun _ kq => XS.aloadN X17.here hx rfl (hb hby zq_d7_75) rfl rfl kq) ?_
  show zq_Go p e below s _ _ _ (T17.setTop (mkF m 76 #[.val (.ref a)] [(.ref a)]))
  refine zq_go (fun _ kq => XS.dup X17.here hx rfl (hb hby zq_d7_76) rfl rfl kq) ?_
  show zq_Go p e below s _ _ _ (T17.setTop (mkF m 77 #[.val (.ref a)] [(.ref a), (.ref a)]))
  obtain ⟨T18, X18, e18, st18⟩ := getF X17 hx hZ hown (host := "") (Or.inl (hw _ (List.mem_of_getElem? (i := 27) rfl))) Via.refl e17 F_v0_a (g := (mkF m 77 #[.val (.ref a)] [(.ref a), (.ref a)])) rfl rfl (hb hby zq_d7_77)
  refine zq_go st18 ?_
  show zq_Go p e below s _ _ _ (T18.setTop (mkF m 80 #[.val (.ref a)] [(.long (zq_rl (v.1 + v.2.1) (32 : Int32))), (.ref a)]))
  refine zq_go (fun _ kq => XS.aloadN X18.here hx rfl (hb hby zq_d7_80) rfl rfl kq) ?_
  show zq_Go p e below s _ _ _ (T18.setTop (mkF m 81 #[.val (.ref a)] [(.ref a), (.long (zq_rl (v.1 + v.2.1) (32 : Int32))), (.ref a)]))
  obtain ⟨T19, X19, e19, st19⟩ := getF X18 hx hZ hown (host := "") (Or.inl (hw _ (List.mem_of_getElem? (i := 36) rfl))) Via.refl e18 F_v3_a (g := (mkF m 81 #[.val (.ref a)] [(.ref a), (.long (zq_rl (v.1 + v.2.1) (32 : Int32))), (.ref a)])) rfl rfl (hb hby zq_d7_81)
  refine zq_go st19 ?_
  show zq_Go p e below s _ _ _ (T19.setTop (mkF m 84 #[.val (.ref a)] [(.long ((zq_rl v.2.2.2 (16 : Int32)) ^^^ (v.2.2.1 + v.2.2.2))), (.long (zq_rl (v.1 + v.2.1) (32 : Int32))), (.ref a)]))
  refine zq_go (fun _ kq => XS.ladd X19.here hx rfl (hb hby zq_d7_84) rfl kq) ?_
  show zq_Go p e below s _ _ _ (T19.setTop (mkF m 85 #[.val (.ref a)] [(.long ((zq_rl (v.1 + v.2.1) (32 : Int32)) + ((zq_rl v.2.2.2 (16 : Int32)) ^^^ (v.2.2.1 + v.2.2.2)))), (.ref a)]))
  obtain ⟨T20, h20, X20, e20, W20, st20⟩ := putF X19 hx hZ hown (host := "") (Or.inl (hw _ (List.mem_of_getElem? (i := 27) rfl))) Via.refl e19 F_v0_a E_a (Or.inl (hw _ (List.mem_of_getElem? (i := 28) rfl))) (hw _ (List.mem_of_getElem? (i := 20) rfl)) (ty := .long) (by decide) rfl rfl (g := (mkF m 85 #[.val (.ref a)] [(.long ((zq_rl (v.1 + v.2.1) (32 : Int32)) + ((zq_rl v.2.2.2 (16 : Int32)) ^^^ (v.2.2.1 + v.2.2.2)))), (.ref a)])) rfl rfl (hb hby zq_d7_85)
  refine zq_go st20 ?_
  have E_a := E_a.wr W20
  have F_v0_a := F_v0_a.same W20
  have F_v1_a := F_v1_a.other W20 (Or.inr (slot_ne (Or.inl (hw _ (List.mem_of_getElem? (i := 31) rfl))) (Or.inl (hw _ (List.mem_of_getElem? (i := 28) rfl))) (by decide) (t := .long) (t' := .long) (by decide) (by decide)))
  have F_v2_a := F_v2_a.other W20 (Or.inr (slot_ne (Or.inl (hw _ (List.mem_of_getElem? (i := 34) rfl))) (Or.inl (hw _ (List.mem_of_getElem? (i := 28) rfl))) (by decide) (t := .long) (t' := .long) (by decide) (by decide)))
  have F_v3_a := F_v3_a.other W20 (Or.inr (slot_ne (Or.inl (hw _ (List.mem_of_getElem? (i := 37) rfl))) (Or.inl (hw _ (List.mem_of_getElem? (i := 28) rfl))) (by decide) (t := .long) (t' := .long) (by decide) (by decide)))
  have ZS := Nat.le_trans ZS (Keep.of_wr W20).1
  have KP := KP.wr W20 (Or.inl (by simp))
  obtain ⟨L20, X20, NF⟩ : ∃ L : List Loc, Stand p l e ({ frames := 1, cells := 0, slots := 0, locals := 15 } : Room) s m #[(.ref a)] below meth c T20 L 0 0 ∧ Fr n0 L := ⟨_, X20, Fr.snoc X20 NF g_a⟩
  show zq_Go p e below s _ _ _ (T20.setTop (mkF m 88 #[.val (.ref a)] []))
  refine zq_go (fun _ kq => XS.aloadN X20.here hx rfl (hb hby zq_d7_88) rfl rfl kq) ?_
  show zq_Go p e below s _ _ _ (T20.setTop (mkF m 89 #[.val (.ref a)] [(.ref a)]))
  refine zq_go (fun _ kq => XS.aloadN X20.here hx rfl (hb hby zq_d7_89) rfl rfl kq) ?_
  show zq_Go p e below s _ _ _ (T20.setTop (mkF m 90 #[.val (.ref a)] [(.ref a), (.ref a)]))
  obtain ⟨T21, X21, e21, st21⟩ := getF X20 hx hZ hown (host := "") (Or.inl (hw _ (List.mem_of_getElem? (i := 36) rfl))) Via.refl e20 F_v3_a (g := (mkF m 90 #[.val (.ref a)] [(.ref a), (.ref a)])) rfl rfl (hb hby zq_d7_90)
  refine zq_go st21 ?_
  show zq_Go p e below s _ _ _ (T21.setTop (mkF m 93 #[.val (.ref a)] [(.long ((zq_rl v.2.2.2 (16 : Int32)) ^^^ (v.2.2.1 + v.2.2.2))), (.ref a)]))
  refine zq_go (fun _ kq => XS.bipush X21.here hx rfl (hb hby zq_d7_93) kq) ?_
  show zq_Go p e below s _ _ _ (T21.setTop (mkF m 95 #[.val (.ref a)] [(.int (21 : Int32)), (.long ((zq_rl v.2.2.2 (16 : Int32)) ^^^ (v.2.2.1 + v.2.2.2))), (.ref a)]))
  obtain ⟨T22, X22, e22, st22⟩ := zq_callP (W := 1) X21 hx hZ hown (hw _ (List.mem_of_getElem? (i := 52) rfl)) (hw _ (List.mem_of_getElem? (i := 53) rfl)) (hw _ (List.mem_of_getElem? (i := 54) rfl)) (hw _ (List.mem_of_getElem? (i := 55) rfl)) (by decide) (zq_rmL l Z a0 hw [] ((zq_rl v.2.2.2 (16 : Int32)) ^^^ (v.2.2.1 + v.2.2.2)) (21 : Int32) h20) e21 (by decide) (by decide) rfl rfl (by decide) (by decide) (g := (mkF m 95 #[.val (.ref a)] [(.int (21 : Int32)), (.long ((zq_rl v.2.2.2 (16 : Int32)) ^^^ (v.2.2.1 + v.2.2.2))), (.ref a)])) rfl (by rw [hml]; rfl) (argsL := [(.long ((zq_rl v.2.2.2 (16 : Int32)) ^^^ (v.2.2.1 + v.2.2.2))), (.int (21 : Int32))]) (rest := [(.ref a)]) (lenOf zq_pd3 rfl) rfl (by show 2 * 0 + _ ≤ _; exact Nat.le_of_eq rfl) (hb hby zq_d7_95)
  refine zq_go st22 ?_
  show zq_Go p e below s _ _ _ (T22.setTop (mkF m 98 #[.val (.ref a)] [(.long (zq_rl ((zq_rl v.2.2.2 (16 : Int32)) ^^^ (v.2.2.1 + v.2.2.2)) (21 : Int32))), (.ref a)]))
  refine zq_go (fun _ kq => XS.aloadN X22.here hx rfl (hb hby zq_d7_98) rfl rfl kq) ?_
  show zq_Go p e below s _ _ _ (T22.setTop (mkF m 99 #[.val (.ref a)] [(.ref a), (.long (zq_rl ((zq_rl v.2.2.2 (16 : Int32)) ^^^ (v.2.2.1 + v.2.2.2)) (21 : Int32))), (.ref a)]))
  obtain ⟨T23, X23, e23, st23⟩ := getF X22 hx hZ hown (host := "") (Or.inl (hw _ (List.mem_of_getElem? (i := 27) rfl))) Via.refl e22 F_v0_a (g := (mkF m 99 #[.val (.ref a)] [(.ref a), (.long (zq_rl ((zq_rl v.2.2.2 (16 : Int32)) ^^^ (v.2.2.1 + v.2.2.2)) (21 : Int32))), (.ref a)])) rfl rfl (hb hby zq_d7_99)
  refine zq_go st23 ?_
  show zq_Go p e below s _ _ _ (T23.setTop (mkF m 102 #[.val (.ref a)] [(.long ((zq_rl (v.1 + v.2.1) (32 : Int32)) + ((zq_rl v.2.2.2 (16 : Int32)) ^^^ (v.2.2.1 + v.2.2.2)))), (.long (zq_rl ((zq_rl v.2.2.2 (16 : Int32)) ^^^ (v.2.2.1 + v.2.2.2)) (21 : Int32))), (.ref a)]))
  refine zq_go (fun _ kq => XS.lxor X23.here hx rfl (hb hby zq_d7_102) rfl kq) ?_
  show zq_Go p e below s _ _ _ (T23.setTop (mkF m 103 #[.val (.ref a)] [(.long ((zq_rl ((zq_rl v.2.2.2 (16 : Int32)) ^^^ (v.2.2.1 + v.2.2.2)) (21 : Int32)) ^^^ ((zq_rl (v.1 + v.2.1) (32 : Int32)) + ((zq_rl v.2.2.2 (16 : Int32)) ^^^ (v.2.2.1 + v.2.2.2))))), (.ref a)]))
  obtain ⟨T24, h24, X24, e24, W24, st24⟩ := putF X23 hx hZ hown (host := "") (Or.inl (hw _ (List.mem_of_getElem? (i := 36) rfl))) Via.refl e23 F_v3_a E_a (Or.inl (hw _ (List.mem_of_getElem? (i := 37) rfl))) (hw _ (List.mem_of_getElem? (i := 20) rfl)) (ty := .long) (by decide) rfl rfl (g := (mkF m 103 #[.val (.ref a)] [(.long ((zq_rl ((zq_rl v.2.2.2 (16 : Int32)) ^^^ (v.2.2.1 + v.2.2.2)) (21 : Int32)) ^^^ ((zq_rl (v.1 + v.2.1) (32 : Int32)) + ((zq_rl v.2.2.2 (16 : Int32)) ^^^ (v.2.2.1 + v.2.2.2))))), (.ref a)])) rfl rfl (hb hby zq_d7_103)
  refine zq_go st24 ?_
  have E_a := E_a.wr W24
  have F_v0_a := F_v0_a.other W24 (Or.inr (slot_ne (Or.inl (hw _ (List.mem_of_getElem? (i := 28) rfl))) (Or.inl (hw _ (List.mem_of_getElem? (i := 37) rfl))) (by decide) (t := .long) (t' := .long) (by decide) (by decide)))
  have F_v1_a := F_v1_a.other W24 (Or.inr (slot_ne (Or.inl (hw _ (List.mem_of_getElem? (i := 31) rfl))) (Or.inl (hw _ (List.mem_of_getElem? (i := 37) rfl))) (by decide) (t := .long) (t' := .long) (by decide) (by decide)))
  have F_v2_a := F_v2_a.other W24 (Or.inr (slot_ne (Or.inl (hw _ (List.mem_of_getElem? (i := 34) rfl))) (Or.inl (hw _ (List.mem_of_getElem? (i := 37) rfl))) (by decide) (t := .long) (t' := .long) (by decide) (by decide)))
  have F_v3_a := F_v3_a.same W24
  have ZS := Nat.le_trans ZS (Keep.of_wr W24).1
  have KP := KP.wr W24 (Or.inl (by simp))
  obtain ⟨L24, X24, NF⟩ : ∃ L : List Loc, Stand p l e ({ frames := 1, cells := 0, slots := 0, locals := 15 } : Room) s m #[(.ref a)] below meth c T24 L 0 0 ∧ Fr n0 L := ⟨_, X24, Fr.snoc X24 NF g_a⟩
  show zq_Go p e below s _ _ _ (T24.setTop (mkF m 106 #[.val (.ref a)] []))
  refine zq_go (fun _ kq => XS.aloadN X24.here hx rfl (hb hby zq_d7_106) rfl rfl kq) ?_
  show zq_Go p e below s _ _ _ (T24.setTop (mkF m 107 #[.val (.ref a)] [(.ref a)]))
  refine zq_go (fun _ kq => XS.dup X24.here hx rfl (hb hby zq_d7_107) rfl rfl kq) ?_
  show zq_Go p e below s _ _ _ (T24.setTop (mkF m 108 #[.val (.ref a)] [(.ref a), (.ref a)]))
  obtain ⟨T25, X25, e25, st25⟩ := getF X24 hx hZ hown (host := "") (Or.inl (hw _ (List.mem_of_getElem? (i := 33) rfl))) Via.refl e24 F_v2_a (g := (mkF m 108 #[.val (.ref a)] [(.ref a), (.ref a)])) rfl rfl (hb hby zq_d7_108)
  refine zq_go st25 ?_
  show zq_Go p e below s _ _ _ (T25.setTop (mkF m 111 #[.val (.ref a)] [(.long (v.2.2.1 + v.2.2.2)), (.ref a)]))
  refine zq_go (fun _ kq => XS.aloadN X25.here hx rfl (hb hby zq_d7_111) rfl rfl kq) ?_
  show zq_Go p e below s _ _ _ (T25.setTop (mkF m 112 #[.val (.ref a)] [(.ref a), (.long (v.2.2.1 + v.2.2.2)), (.ref a)]))
  obtain ⟨T26, X26, e26, st26⟩ := getF X25 hx hZ hown (host := "") (Or.inl (hw _ (List.mem_of_getElem? (i := 30) rfl))) Via.refl e25 F_v1_a (g := (mkF m 112 #[.val (.ref a)] [(.ref a), (.long (v.2.2.1 + v.2.2.2)), (.ref a)])) rfl rfl (hb hby zq_d7_112)
  refine zq_go st26 ?_
  show zq_Go p e below s _ _ _ (T26.setTop (mkF m 115 #[.val (.ref a)] [(.long ((zq_rl v.2.1 (13 : Int32)) ^^^ (v.1 + v.2.1))), (.long (v.2.2.1 + v.2.2.2)), (.ref a)]))
  refine zq_go (fun _ kq => XS.ladd X26.here hx rfl (hb hby zq_d7_115) rfl kq) ?_
  show zq_Go p e below s _ _ _ (T26.setTop (mkF m 116 #[.val (.ref a)] [(.long ((v.2.2.1 + v.2.2.2) + ((zq_rl v.2.1 (13 : Int32)) ^^^ (v.1 + v.2.1)))), (.ref a)]))
  obtain ⟨T27, h27, X27, e27, W27, st27⟩ := putF X26 hx hZ hown (host := "") (Or.inl (hw _ (List.mem_of_getElem? (i := 33) rfl))) Via.refl e26 F_v2_a E_a (Or.inl (hw _ (List.mem_of_getElem? (i := 34) rfl))) (hw _ (List.mem_of_getElem? (i := 20) rfl)) (ty := .long) (by decide) rfl rfl (g := (mkF m 116 #[.val (.ref a)] [(.long ((v.2.2.1 + v.2.2.2) + ((zq_rl v.2.1 (13 : Int32)) ^^^ (v.1 + v.2.1)))), (.ref a)])) rfl rfl (hb hby zq_d7_116)
  refine zq_go st27 ?_
  have E_a := E_a.wr W27
  have F_v0_a := F_v0_a.other W27 (Or.inr (slot_ne (Or.inl (hw _ (List.mem_of_getElem? (i := 28) rfl))) (Or.inl (hw _ (List.mem_of_getElem? (i := 34) rfl))) (by decide) (t := .long) (t' := .long) (by decide) (by decide)))
  have F_v1_a := F_v1_a.other W27 (Or.inr (slot_ne (Or.inl (hw _ (List.mem_of_getElem? (i := 31) rfl))) (Or.inl (hw _ (List.mem_of_getElem? (i := 34) rfl))) (by decide) (t := .long) (t' := .long) (by decide) (by decide)))
  have F_v2_a := F_v2_a.same W27
  have F_v3_a := F_v3_a.other W27 (Or.inr (slot_ne (Or.inl (hw _ (List.mem_of_getElem? (i := 37) rfl))) (Or.inl (hw _ (List.mem_of_getElem? (i := 34) rfl))) (by decide) (t := .long) (t' := .long) (by decide) (by decide)))
  have ZS := Nat.le_trans ZS (Keep.of_wr W27).1
  have KP := KP.wr W27 (Or.inl (by simp))
  obtain ⟨L27, X27, NF⟩ : ∃ L : List Loc, Stand p l e ({ frames := 1, cells := 0, slots := 0, locals := 15 } : Room) s m #[(.ref a)] below meth c T27 L 0 0 ∧ Fr n0 L := ⟨_, X27, Fr.snoc X27 NF g_a⟩
  show zq_Go p e below s _ _ _ (T27.setTop (mkF m 119 #[.val (.ref a)] []))
  refine zq_go (fun _ kq => XS.aloadN X27.here hx rfl (hb hby zq_d7_119) rfl rfl kq) ?_
  show zq_Go p e below s _ _ _ (T27.setTop (mkF m 120 #[.val (.ref a)] [(.ref a)]))
  refine zq_go (fun _ kq => XS.aloadN X27.here hx rfl (hb hby zq_d7_120) rfl rfl kq) ?_
  show zq_Go p e below s _ _ _ (T27.setTop (mkF m 121 #[.val (.ref a)] [(.ref a), (.ref a)]))
  obtain ⟨T28, X28, e28, st28⟩ := getF X27 hx hZ hown (host := "") (Or.inl (hw _ (List.mem_of_getElem? (i := 30) rfl))) Via.refl e27 F_v1_a (g := (mkF m 121 #[.val (.ref a)] [(.ref a), (.ref a)])) rfl rfl (hb hby zq_d7_121)
  refine zq_go st28 ?_
  show zq_Go p e below s _ _ _ (T28.setTop (mkF m 124 #[.val (.ref a)] [(.long ((zq_rl v.2.1 (13 : Int32)) ^^^ (v.1 + v.2.1))), (.ref a)]))
  refine zq_go (fun _ kq => XS.bipush X28.here hx rfl (hb hby zq_d7_124) kq) ?_
  show zq_Go p e below s _ _ _ (T28.setTop (mkF m 126 #[.val (.ref a)] [(.int (17 : Int32)), (.long ((zq_rl v.2.1 (13 : Int32)) ^^^ (v.1 + v.2.1))), (.ref a)]))
  obtain ⟨T29, X29, e29, st29⟩ := zq_callP (W := 1) X28 hx hZ hown (hw _ (List.mem_of_getElem? (i := 52) rfl)) (hw _ (List.mem_of_getElem? (i := 53) rfl)) (hw _ (List.mem_of_getElem? (i := 54) rfl)) (hw _ (List.mem_of_getElem? (i := 55) rfl)) (by decide) (zq_rmL l Z a0 hw [] ((zq_rl v.2.1 (13 : Int32)) ^^^ (v.1 + v.2.1)) (17 : Int32) h27) e28 (by decide) (by decide) rfl rfl (by decide) (by decide) (g := (mkF m 126 #[.val (.ref a)] [(.int (17 : Int32)), (.long ((zq_rl v.2.1 (13 : Int32)) ^^^ (v.1 + v.2.1))), (.ref a)])) rfl (by rw [hml]; rfl) (argsL := [(.long ((zq_rl v.2.1 (13 : Int32)) ^^^ (v.1 + v.2.1))), (.int (17 : Int32))]) (rest := [(.ref a)]) (lenOf zq_pd3 rfl) rfl (by show 2 * 0 + _ ≤ _; exact Nat.le_of_eq rfl) (hb hby zq_d7_126)
  refine zq_go st29 ?_
  show zq_Go p e below s _ _ _ (T29.setTop (mkF m 129 #[.val (.ref a)] [(.long (zq_rl ((zq_rl v.2.1 (13 : Int32)) ^^^ (v.1 + v.2.1)) (17 : Int32))), (.ref a)]))
  refine zq_go (fun _ kq => XS.aloadN X29.here hx rfl (hb hby zq_d7_129) rfl rfl kq) ?_
  show zq_Go p e below s _ _ _ (T29.setTop (mkF m 130 #[.val (.ref a)] [(.ref a), (.long (zq_rl ((zq_rl v.2.1 (13 : Int32)) ^^^ (v.1 + v.2.1)) (17 : Int32))), (.ref a)]))
  obtain ⟨T30, X30, e30, st30⟩ := getF X29 hx hZ hown (host := "") (Or.inl (hw _ (List.mem_of_getElem? (i := 33) rfl))) Via.refl e29 F_v2_a (g := (mkF m 130 #[.val (.ref a)] [(.ref a), (.long (zq_rl ((zq_rl v.2.1 (13 : Int32)) ^^^ (v.1 + v.2.1)) (17 : Int32))), (.ref a)])) rfl rfl (hb hby zq_d7_130)
  refine zq_go st30 ?_
  show zq_Go p e below s _ _ _ (T30.setTop (mkF m 133 #[.val (.ref a)] [(.long ((v.2.2.1 + v.2.2.2) + ((zq_rl v.2.1 (13 : Int32)) ^^^ (v.1 + v.2.1)))), (.long (zq_rl ((zq_rl v.2.1 (13 : Int32)) ^^^ (v.1 + v.2.1)) (17 : Int32))), (.ref a)]))
  refine zq_go (fun _ kq => XS.lxor X30.here hx rfl (hb hby zq_d7_133) rfl kq) ?_
  show zq_Go p e below s _ _ _ (T30.setTop (mkF m 134 #[.val (.ref a)] [(.long ((zq_rl ((zq_rl v.2.1 (13 : Int32)) ^^^ (v.1 + v.2.1)) (17 : Int32)) ^^^ ((v.2.2.1 + v.2.2.2) + ((zq_rl v.2.1 (13 : Int32)) ^^^ (v.1 + v.2.1))))), (.ref a)]))
  obtain ⟨T31, h31, X31, e31, W31, st31⟩ := putF X30 hx hZ hown (host := "") (Or.inl (hw _ (List.mem_of_getElem? (i := 30) rfl))) Via.refl e30 F_v1_a E_a (Or.inl (hw _ (List.mem_of_getElem? (i := 31) rfl))) (hw _ (List.mem_of_getElem? (i := 20) rfl)) (ty := .long) (by decide) rfl rfl (g := (mkF m 134 #[.val (.ref a)] [(.long ((zq_rl ((zq_rl v.2.1 (13 : Int32)) ^^^ (v.1 + v.2.1)) (17 : Int32)) ^^^ ((v.2.2.1 + v.2.2.2) + ((zq_rl v.2.1 (13 : Int32)) ^^^ (v.1 + v.2.1))))), (.ref a)])) rfl rfl (hb hby zq_d7_134)
  refine zq_go st31 ?_
  have E_a := E_a.wr W31
  have F_v0_a := F_v0_a.other W31 (Or.inr (slot_ne (Or.inl (hw _ (List.mem_of_getElem? (i := 28) rfl))) (Or.inl (hw _ (List.mem_of_getElem? (i := 31) rfl))) (by decide) (t := .long) (t' := .long) (by decide) (by decide)))
  have F_v1_a := F_v1_a.same W31
  have F_v2_a := F_v2_a.other W31 (Or.inr (slot_ne (Or.inl (hw _ (List.mem_of_getElem? (i := 34) rfl))) (Or.inl (hw _ (List.mem_of_getElem? (i := 31) rfl))) (by decide) (t := .long) (t' := .long) (by decide) (by decide)))
  have F_v3_a := F_v3_a.other W31 (Or.inr (slot_ne (Or.inl (hw _ (List.mem_of_getElem? (i := 37) rfl))) (Or.inl (hw _ (List.mem_of_getElem? (i := 31) rfl))) (by decide) (t := .long) (t' := .long) (by decide) (by decide)))
  have ZS := Nat.le_trans ZS (Keep.of_wr W31).1
  have KP := KP.wr W31 (Or.inl (by simp))
  obtain ⟨L31, X31, NF⟩ : ∃ L : List Loc, Stand p l e ({ frames := 1, cells := 0, slots := 0, locals := 15 } : Room) s m #[(.ref a)] below meth c T31 L 0 0 ∧ Fr n0 L := ⟨_, X31, Fr.snoc X31 NF g_a⟩
  show zq_Go p e below s _ _ _ (T31.setTop (mkF m 137 #[.val (.ref a)] []))
  refine zq_go (fun _ kq => XS.aloadN X31.here hx rfl (hb hby zq_d7_137) rfl rfl kq) ?_
  show zq_Go p e below s _ _ _ (T31.setTop (mkF m 138 #[.val (.ref a)] [(.ref a)]))
  refine zq_go (fun _ kq => XS.aloadN X31.here hx rfl (hb hby zq_d7_138) rfl rfl kq) ?_
  show zq_Go p e below s _ _ _ (T31.setTop (mkF m 139 #[.val (.ref a)] [(.ref a), (.ref a)]))
  obtain ⟨T32, X32, e32, st32⟩ := getF X31 hx hZ hown (host := "") (Or.inl (hw _ (List.mem_of_getElem? (i := 33) rfl))) Via.refl e31 F_v2_a (g := (mkF m 139 #[.val (.ref a)] [(.ref a), (.ref a)])) rfl rfl (hb hby zq_d7_139)
  refine zq_go st32 ?_
  show zq_Go p e below s _ _ _ (T32.setTop (mkF m 142 #[.val (.ref a)] [(.long ((v.2.2.1 + v.2.2.2) + ((zq_rl v.2.1 (13 : Int32)) ^^^ (v.1 + v.2.1)))), (.ref a)]))
  refine zq_go (fun _ kq => XS.bipush X32.here hx rfl (hb hby zq_d7_142) kq) ?_
  show zq_Go p e below s _ _ _ (T32.setTop (mkF m 144 #[.val (.ref a)] [(.int (32 : Int32)), (.long ((v.2.2.1 + v.2.2.2) + ((zq_rl v.2.1 (13 : Int32)) ^^^ (v.1 + v.2.1)))), (.ref a)]))
  obtain ⟨T33, X33, e33, st33⟩ := zq_callP (W := 1) X32 hx hZ hown (hw _ (List.mem_of_getElem? (i := 52) rfl)) (hw _ (List.mem_of_getElem? (i := 53) rfl)) (hw _ (List.mem_of_getElem? (i := 54) rfl)) (hw _ (List.mem_of_getElem? (i := 55) rfl)) (by decide) (zq_rmL l Z a0 hw [] ((v.2.2.1 + v.2.2.2) + ((zq_rl v.2.1 (13 : Int32)) ^^^ (v.1 + v.2.1))) (32 : Int32) h31) e32 (by decide) (by decide) rfl rfl (by decide) (by decide) (g := (mkF m 144 #[.val (.ref a)] [(.int (32 : Int32)), (.long ((v.2.2.1 + v.2.2.2) + ((zq_rl v.2.1 (13 : Int32)) ^^^ (v.1 + v.2.1)))), (.ref a)])) rfl (by rw [hml]; rfl) (argsL := [(.long ((v.2.2.1 + v.2.2.2) + ((zq_rl v.2.1 (13 : Int32)) ^^^ (v.1 + v.2.1)))), (.int (32 : Int32))]) (rest := [(.ref a)]) (lenOf zq_pd3 rfl) rfl (by show 2 * 0 + _ ≤ _; exact Nat.le_of_eq rfl) (hb hby zq_d7_144)
  refine zq_go st33 ?_
  show zq_Go p e below s _ _ _ (T33.setTop (mkF m 147 #[.val (.ref a)] [(.long (zq_rl ((v.2.2.1 + v.2.2.2) + ((zq_rl v.2.1 (13 : Int32)) ^^^ (v.1 + v.2.1))) (32 : Int32))), (.ref a)]))
  obtain ⟨T34, h34, X34, e34, W34, st34⟩ := putF X33 hx hZ hown (host := "") (Or.inl (hw _ (List.mem_of_getElem? (i := 33) rfl))) Via.refl e33 F_v2_a E_a (Or.inl (hw _ (List.mem_of_getElem? (i := 34) rfl))) (hw _ (List.mem_of_getElem? (i := 20) rfl)) (ty := .long) (by decide) rfl rfl (g := (mkF m 147 #[.val (.ref a)] [(.long (zq_rl ((v.2.2.1 + v.2.2.2) + ((zq_rl v.2.1 (13 : Int32)) ^^^ (v.1 + v.2.1))) (32 : Int32))), (.ref a)])) rfl rfl (hb hby zq_d7_147)
  refine zq_go st34 ?_
  have E_a := E_a.wr W34
  have F_v0_a := F_v0_a.other W34 (Or.inr (slot_ne (Or.inl (hw _ (List.mem_of_getElem? (i := 28) rfl))) (Or.inl (hw _ (List.mem_of_getElem? (i := 34) rfl))) (by decide) (t := .long) (t' := .long) (by decide) (by decide)))
  have F_v1_a := F_v1_a.other W34 (Or.inr (slot_ne (Or.inl (hw _ (List.mem_of_getElem? (i := 31) rfl))) (Or.inl (hw _ (List.mem_of_getElem? (i := 34) rfl))) (by decide) (t := .long) (t' := .long) (by decide) (by decide)))
  have F_v2_a := F_v2_a.same W34
  have F_v3_a := F_v3_a.other W34 (Or.inr (slot_ne (Or.inl (hw _ (List.mem_of_getElem? (i := 37) rfl))) (Or.inl (hw _ (List.mem_of_getElem? (i := 34) rfl))) (by decide) (t := .long) (t' := .long) (by decide) (by decide)))
  have ZS := Nat.le_trans ZS (Keep.of_wr W34).1
  have KP := KP.wr W34 (Or.inl (by simp))
  obtain ⟨L34, X34, NF⟩ : ∃ L : List Loc, Stand p l e ({ frames := 1, cells := 0, slots := 0, locals := 15 } : Room) s m #[(.ref a)] below meth c T34 L 0 0 ∧ Fr n0 L := ⟨_, X34, Fr.snoc X34 NF g_a⟩
  show zq_Go p e below s _ _ _ (T34.setTop (mkF m 150 #[.val (.ref a)] []))
  exact zq_ret0 X34 hx hlk hret (hb hby zq_d7_150) (by rw [e34]; exact ⟨rfl, NF, KP, F_v0_a, F_v1_a, F_v2_a, F_v3_a⟩) (by decide) (by decide)
theorem zq_pd4 : parseMethodDescriptor "()V" = some ⟨[], none⟩ := by decide +kernel
theorem zq_d6_0 : decode prog_79_method_2_code 0 = .ok (.aload_n 0, 1) := by decide +kernel
theorem zq_d6_1 : decode prog_79_method_2_code 1 = .ok (.dup, 1) := by decide +kernel
theorem zq_d6_2 : decode prog_79_method_2_code 2 = .ok (.getfield 27, 3) := by decide +kernel
theorem zq_d6_5 : decode prog_79_method_2_code 5 = .ok (.lload_n 1, 1) := by decide +kernel
theorem zq_d6_6 : decode prog_79_method_2_code 6 = .ok (.lxor, 1) := by decide +kernel
theorem zq_d6_7 : decode prog_79_method_2_code 7 = .ok (.putfield 27, 3) := by decide +kernel
theorem zq_d6_10 : decode prog_79_method_2_code 10 = .ok (.aload_n 0, 1) := by decide +kernel
theorem zq_d6_11 : decode prog_79_method_2_code 11 = .ok (.invokevirtual 30, 3) := by decide +kernel
theorem zq_d6_14 : decode prog_79_method_2_code 14 = .ok (.aload_n 0, 1) := by decide +kernel
theorem zq_d6_15 : decode prog_79_method_2_code 15 = .ok (.invokevirtual 30, 3) := by decide +kernel
theorem zq_d6_18 : decode prog_79_method_2_code 18 = .ok (.aload_n 0, 1) := by decide +kernel
theorem zq_d6_19 : decode prog_79_method_2_code 19 = .ok (.dup, 1) := by decide +kernel
theorem zq_d6_20 : decode prog_79_method_2_code 20 = .ok (.getfield 9, 3) := by decide +kernel
theorem zq_d6_23 : decode prog_79_method_2_code 23 = .ok (.lload_n 1, 1) := by decide +kernel
theorem zq_d6_24 : decode prog_79_method_2_code 24 = .ok (.lxor, 1) := by decide +kernel
theorem zq_d6_25 : decode prog_79_method_2_code 25 = .ok (.putfield 9, 3) := by decide +kernel
theorem zq_d6_28 : decode prog_79_method_2_code 28 = .ok (.return_, 1) := by decide +kernel
theorem zq_ef6 (m : MethodId) (x0 : Addr) (x1 : Int64) : entryFrame m #[(.ref x0), (.long x1)] 3 = mkF m 0 #[.val (.ref x0), .val (.long x1), .second] [] := by first | (simp [entryFrame, mkF, argsToLocals, Value.category]; done) | rfl
set_option maxRecDepth 65536 in
set_option maxHeartbeats 40000000 in
theorem zq_rmST (l : Launch) (Z : State) (a0 : Array Value) (hw : ∀ d ∈ tables_1, d.before a0 Z = true) (ws : List Jvm.Cond) (a : Addr) (mm : Int64) (h0 : Heap) (n0 : Nat) (v : zq_V) (E_a : Exa Z h0 a "com/example/clearline/clearline/formats/TableHash$Sip") (F_v0_a : Fld Z h0 a "com/example/clearline/clearline/formats/TableHash$Sip" "v0" "J" (.long v.1)) (F_v1_a : Fld Z h0 a "com/example/clearline/clearline/formats/TableHash$Sip" "v1" "J" (.long v.2.1)) (F_v2_a : Fld Z h0 a "com/example/clearline/clearline/formats/TableHash$Sip" "v2" "J" (.long v.2.2.1)) (F_v3_a : Fld Z h0 a "com/example/clearline/clearline/formats/TableHash$Sip" "v3" "J" (.long v.2.2.2)) (g_a : n0 ≤ a) :
    zq_Met l Z (⟨"com/example/clearline/clearline/formats/TableHash$Sip", "take", "(J)V"⟩ : MethodName) prog_79_method_2_code 3 none ws ({ frames := 2, cells := 0, slots := 0, locals := 27 } : Room) #[(.ref a), (.long mm)] h0 (fun r h L => r = none ∧ Fr n0 L ∧ Keep h0 h [a] ∧ Fld Z h a "com/example/clearline/clearline/formats/TableHash$Sip" "v0" "J" (.long (zq_tk zq_rd v mm).1) ∧ Fld Z h a "com/example/clearline/clearline/formats/TableHash$Sip" "v1" "J" (.long (zq_tk zq_rd v mm).2.1) ∧ Fld Z h a "com/example/clearline/clearline/formats/TableHash$Sip" "v2" "J" (.long (zq_tk zq_rd v mm).2.2.1) ∧ Fld Z h a "com/example/clearline/clearline/formats/TableHash$Sip" "v3" "J" (.long (zq_tk zq_rd v mm).2.2.2)) := by
  refine zq_body (plainFor_of_name zq_pn2) ?_
  intro p e s m below meth c s₁ hx hZ hby hml hret hlk hown hnm X0 e0
  refine zq_go (fun _ kq => castTop (zq_ef6 m a mm) kq) ?_
  have NF := Fr.nil n0
  have KP := Keep.refl h0 [a]
  have ZS : 0 ≤ h0.size := Nat.zero_le _
  show zq_Go p e below s _ _ _ (s₁.setTop (mkF m 0 #[.val (.ref a), .val (.long mm), .second] []))
  refine zq_go (fun _ kq => XS.aloadN X0.here hx rfl (hb hby zq_d6_0) rfl rfl kq) ?_
  show zq_Go p e below s _ _ _ (s₁.setTop (mkF m 1 #[.val (.ref a), .val (.long mm), .second] [(.ref a)]))
  refine zq_go (fun _ kq => XS.dup X0.here hx rfl (hb hby zq_d6_1) rfl rfl kq) ?_
  show zq_Go p e below s _ _ _ (s₁.setTop (mkF m 2 #[.val (.ref a), .val (.long mm), .second] [(.ref a), (.ref a)]))
  obtain ⟨T1, X1, e1, st1⟩ := getF X0 hx hZ hown (host := "") (Or.inl (hw _ (List.mem_of_getElem? (i := 36) rfl))) Via.refl e0 F_v3_a (g := (mkF m 2 #[.val (.ref a), .val (.long mm), .second] [(.ref a), (.ref a)])) rfl rfl (hb hby zq_d6_2)
  refine zq_go st1 ?_
  show zq_Go p e below s _ _ _ (T1.setTop (mkF m 5 #[.val (.ref a), .val (.long mm), .second] [(.long v.2.2.2), (.ref a)]))
  refine zq_go (fun _ kq => XS.lloadN X1.here hx rfl (hb hby zq_d6_5) rfl kq) ?_
  show zq_Go p e below s _ _ _ (T1.setTop (mkF m 6 #[.val (.ref a), .val (.long mm), .second] [(.long mm), (.long v.2.2.2), (.ref a)]))
  refine zq_go (fun _ kq => XS.lxor X1.here hx rfl (hb hby zq_d6_6) rfl kq) ?_
  show zq_Go p e below s _ _ _ (T1.setTop (mkF m 7 #[.val (.ref a), .val (.long mm), .second] [(.long (v.2.2.2 ^^^ mm)), (.ref a)]))
  obtain ⟨T2, h2, X2, e2, W2, st2⟩ := putF X1 hx hZ hown (host := "") (Or.inl (hw _ (List.mem_of_getElem? (i := 36) rfl))) Via.refl e1 F_v3_a E_a (Or.inl (hw _ (List.mem_of_getElem? (i := 37) rfl))) (hw _ (List.mem_of_getElem? (i := 20) rfl)) (ty := .long) (by decide) rfl rfl (g := (mkF m 7 #[.val (.ref a), .val (.long mm), .second] [(.long (v.2.2.2 ^^^ mm)), (.ref a)])) rfl rfl (hb hby zq_d6_7)
  refine zq_go st2 ?_
  have E_a := E_a.wr W2
  have F_v0_a := F_v0_a.other W2 (Or.inr (slot_ne (Or.inl (hw _ (List.mem_of_getElem? (i := 28) rfl))) (Or.inl (hw _ (List.mem_of_getElem? (i := 37) rfl))) (by decide) (t := .long) (t' := .long) (by decide) (by decide)))
  have F_v1_a := F_v1_a.other W2 (Or.inr (slot_ne (Or.inl (hw _ (List.mem_of_getElem? (i := 31) rfl))) (Or.inl (hw _ (List.mem_of_getElem? (i := 37) rfl))) (by decide) (t := .long) (t' := .long) (by decide) (by decide)))
  have F_v2_a := F_v2_a.other W2 (Or.inr (slot_ne (Or.inl (hw _ (List.mem_of_getElem? (i := 34) rfl))) (Or.inl (hw _ (List.mem_of_getElem? (i := 37) rfl))) (by decide) (t := .long) (t' := .long) (by decide) (by decide)))
  have F_v3_a := F_v3_a.same W2
  have ZS := Nat.le_trans ZS (Keep.of_wr W2).1
  have KP := KP.wr W2 (Or.inl (by simp))
  obtain ⟨L2, X2, NF⟩ : ∃ L : List Loc, Stand p l e ({ frames := 2, cells := 0, slots := 0, locals := 27 } : Room) s m #[(.ref a), (.long mm)] below meth c T2 L 0 0 ∧ Fr n0 L := ⟨_, X2, Fr.snoc X2 NF g_a⟩
  show zq_Go p e below s _ _ _ (T2.setTop (mkF m 10 #[.val (.ref a), .val (.long mm), .second] []))
  refine zq_go (fun _ kq => XS.aloadN X2.here hx rfl (hb hby zq_d6_10) rfl rfl kq) ?_
  show zq_Go p e below s _ _ _ (T2.setTop (mkF m 11 #[.val (.ref a), .val (.long mm), .second] [(.ref a)]))
  obtain ⟨_, T3, L3, X3, ⟨rfl, Nq3, K3, G0_3, G1_3, G2_3, G3_3⟩, st3⟩ := zq_callR (W := 0) X2 hx hZ hown (hw _ (List.mem_of_getElem? (i := 48) rfl)) (hw _ (List.mem_of_getElem? (i := 50) rfl)) (hw _ (List.mem_of_getElem? (i := 20) rfl)) (hw _ (List.mem_of_getElem? (i := 49) rfl)) (hw _ (List.mem_of_getElem? (i := 21) rfl)) (hw _ (List.mem_of_getElem? (i := 51) rfl)) (by decide) (zq_rmSR l Z a0 hw [] a h2 n0 (v.1, v.2.1, v.2.2.1, (v.2.2.2 ^^^ mm)) E_a F_v0_a F_v1_a F_v2_a F_v3_a g_a) e2 E_a (by decide) (by decide) (by decide) (by decide) (g := (mkF m 11 #[.val (.ref a), .val (.long mm), .second] [(.ref a)])) rfl (by rw [hml]; rfl) (a := a) (argsL := []) (rest := []) (lenOf zq_pd4 rfl) rfl (by show 2 * 0 + _ ≤ _; exact Nat.le_of_eq rfl) (hb hby zq_d6_11)
  have E_a := E_a.keep K3
  have ZS := Nat.le_trans ZS K3.1
  have KP := KP.trans K3 (allS (P := fun x => x ∈ [a] ∨ h0.size ≤ x) (Or.inl (by simp)) (all0))
  obtain ⟨t3, ht3⟩ : ∃ z : zq_V, z = zq_rd (v.1, v.2.1, v.2.2.1, (v.2.2.2 ^^^ mm)) := ⟨_, rfl⟩
  have F_v0_a : Fld Z T3.heap a "com/example/clearline/clearline/formats/TableHash$Sip" "v0" "J" (.long t3.1) := by rw [ht3]; exact G0_3
  have F_v1_a : Fld Z T3.heap a "com/example/clearline/clearline/formats/TableHash$Sip" "v1" "J" (.long t3.2.1) := by rw [ht3]; exact G1_3
  have F_v2_a : Fld Z T3.heap a "com/example/clearline/clearline/formats/TableHash$Sip" "v2" "J" (.long t3.2.2.1) := by rw [ht3]; exact G2_3
  have F_v3_a : Fld Z T3.heap a "com/example/clearline/clearline/formats/TableHash$Sip" "v3" "J" (.long t3.2.2.2) := by rw [ht3]; exact G3_3
  obtain ⟨L3, X3, NF⟩ : ∃ L : List Loc, Stand p l e ({ frames := 2, cells := 0, slots := 0, locals := 27 } : Room) s m #[(.ref a), (.long mm)] below meth c T3 L 0 0 ∧ Fr n0 L := ⟨_, X3, Fr.app NF Nq3⟩
  refine zq_go st3 ?_
  show zq_Go p e below s _ _ _ (T3.setTop (mkF m 14 #[.val (.ref a), .val (.long mm), .second] []))
  refine zq_go (fun _ kq => XS.aloadN X3.here hx rfl (hb hby zq_d6_14) rfl rfl kq) ?_
  show zq_Go p e below s _ _ _ (T3.setTop (mkF m 15 #[.val (.ref a), .val (.long mm), .second] [(.ref a)]))
  obtain ⟨_, T4, L4, X4, ⟨rfl, Nq4, K4, G0_4, G1_4, G2_4, G3_4⟩, st4⟩ := zq_callR (W := 0) X3 hx hZ hown (hw _ (List.mem_of_getElem? (i := 48) rfl)) (hw _ (List.mem_of_getElem? (i := 50) rfl)) (hw _ (List.mem_of_getElem? (i := 20) rfl)) (hw _ (List.mem_of_getElem? (i := 49) rfl)) (hw _ (List.mem_of_getElem? (i := 21) rfl)) (hw _ (List.mem_of_getElem? (i := 51) rfl)) (by decide) (zq_rmSR l Z a0 hw [] a T3.heap n0 (t3.1, t3.2.1, t3.2.2.1, t3.2.2.2) E_a F_v0_a F_v1_a F_v2_a F_v3_a g_a) rfl E_a (by decide) (by decide) (by decide) (by decide) (g := (mkF m 15 #[.val (.ref a), .val (.long mm), .second] [(.ref a)])) rfl (by rw [hml]; rfl) (a := a) (argsL := []) (rest := []) (lenOf zq_pd4 rfl) rfl (by show 2 * 0 + _ ≤ _; exact Nat.le_of_eq rfl) (hb hby zq_d6_15)
  have E_a := E_a.keep K4
  have ZS := Nat.le_trans ZS K4.1
  have KP := KP.trans K4 (allS (P := fun x => x ∈ [a] ∨ h0.size ≤ x) (Or.inl (by simp)) (all0))
  obtain ⟨t4, ht4⟩ : ∃ z : zq_V, z = zq_rd (t3.1, t3.2.1, t3.2.2.1, t3.2.2.2) := ⟨_, rfl⟩
  have F_v0_a : Fld Z T4.heap a "com/example/clearline/clearline/formats/TableHash$Sip" "v0" "J" (.long t4.1) := by rw [ht4]; exact G0_4
  have F_v1_a : Fld Z T4.heap a "com/example/clearline/clearline/formats/TableHash$Sip" "v1" "J" (.long t4.2.1) := by rw [ht4]; exact G1_4
  have F_v2_a : Fld Z T4.heap a "com/example/clearline/clearline/formats/TableHash$Sip" "v2" "J" (.long t4.2.2.1) := by rw [ht4]; exact G2_4
  have F_v3_a : Fld Z T4.heap a "com/example/clearline/clearline/formats/TableHash$Sip" "v3" "J" (.long t4.2.2.2) := by rw [ht4]; exact G3_4
  obtain ⟨L4, X4, NF⟩ : ∃ L : List Loc, Stand p l e ({ frames := 2, cells := 0, slots := 0, locals := 27 } : Room) s m #[(.ref a), (.long mm)] below meth c T4 L 0 0 ∧ Fr n0 L := ⟨_, X4, Fr.app NF Nq4⟩
  refine zq_go st4 ?_
  show zq_Go p e below s _ _ _ (T4.setTop (mkF m 18 #[.val (.ref a), .val (.long mm), .second] []))
  refine zq_go (fun _ kq => XS.aloadN X4.here hx rfl (hb hby zq_d6_18) rfl rfl kq) ?_
  show zq_Go p e below s _ _ _ (T4.setTop (mkF m 19 #[.val (.ref a), .val (.long mm), .second] [(.ref a)]))
  refine zq_go (fun _ kq => XS.dup X4.here hx rfl (hb hby zq_d6_19) rfl rfl kq) ?_
  show zq_Go p e below s _ _ _ (T4.setTop (mkF m 20 #[.val (.ref a), .val (.long mm), .second] [(.ref a), (.ref a)]))
  obtain ⟨T5, X5, e5, st5⟩ := getF X4 hx hZ hown (host := "") (Or.inl (hw _ (List.mem_of_getElem? (i := 27) rfl))) Via.refl rfl F_v0_a (g := (mkF m 20 #[.val (.ref a), .val (.long mm), .second] [(.ref a), (.ref a)])) rfl rfl (hb hby zq_d6_20)
  refine zq_go st5 ?_
  show zq_Go p e below s _ _ _ (T5.setTop (mkF m 23 #[.val (.ref a), .val (.long mm), .second] [(.long t4.1), (.ref a)]))
  refine zq_go (fun _ kq => XS.lloadN X5.here hx rfl (hb hby zq_d6_23) rfl kq) ?_
  show zq_Go p e below s _ _ _ (T5.setTop (mkF m 24 #[.val (.ref a), .val (.long mm), .second] [(.long mm), (.long t4.1), (.ref a)]))
  refine zq_go (fun _ kq => XS.lxor X5.here hx rfl (hb hby zq_d6_24) rfl kq) ?_
  show zq_Go p e below s _ _ _ (T5.setTop (mkF m 25 #[.val (.ref a), .val (.long mm), .second] [(.long (t4.1 ^^^ mm)), (.ref a)]))
  obtain ⟨T6, h6, X6, e6, W6, st6⟩ := putF X5 hx hZ hown (host := "") (Or.inl (hw _ (List.mem_of_getElem? (i := 27) rfl))) Via.refl e5 F_v0_a E_a (Or.inl (hw _ (List.mem_of_getElem? (i := 28) rfl))) (hw _ (List.mem_of_getElem? (i := 20) rfl)) (ty := .long) (by decide) rfl rfl (g := (mkF m 25 #[.val (.ref a), .val (.long mm), .second] [(.long (t4.1 ^^^ mm)), (.ref a)])) rfl rfl (hb hby zq_d6_25)
  refine zq_go st6 ?_
  have E_a := E_a.wr W6
  have F_v0_a := F_v0_a.same W6
  have F_v1_a := F_v1_a.other W6 (Or.inr (slot_ne (Or.inl (hw _ (List.mem_of_getElem? (i := 31) rfl))) (Or.inl (hw _ (List.mem_of_getElem? (i := 28) rfl))) (by decide) (t := .long) (t' := .long) (by decide) (by decide)))
  have F_v2_a := F_v2_a.other W6 (Or.inr (slot_ne (Or.inl (hw _ (List.mem_of_getElem? (i := 34) rfl))) (Or.inl (hw _ (List.mem_of_getElem? (i := 28) rfl))) (by decide) (t := .long) (t' := .long) (by decide) (by decide)))
  have F_v3_a := F_v3_a.other W6 (Or.inr (slot_ne (Or.inl (hw _ (List.mem_of_getElem? (i := 37) rfl))) (Or.inl (hw _ (List.mem_of_getElem? (i := 28) rfl))) (by decide) (t := .long) (t' := .long) (by decide) (by decide)))
  have ZS := Nat.le_trans ZS (Keep.of_wr W6).1
  have KP := KP.wr W6 (Or.inl (by simp))
  obtain ⟨L6, X6, NF⟩ : ∃ L : List Loc, Stand p l e ({ frames := 2, cells := 0, slots := 0, locals := 27 } : Room) s m #[(.ref a), (.long mm)] below meth c T6 L 0 0 ∧ Fr n0 L := ⟨_, X6, Fr.snoc X6 NF g_a⟩
  show zq_Go p e below s _ _ _ (T6.setTop (mkF m 28 #[.val (.ref a), .val (.long mm), .second] []))
  exact zq_ret0 X6 hx hlk hret (hb hby zq_d6_28) (by rw [e6]; subst ht4; subst ht3; exact ⟨rfl, NF, KP, F_v0_a, F_v1_a, F_v2_a, F_v3_a⟩) (by decide) (by decide)
theorem zq_pd5 : parseMethodDescriptor "(J)V" = some ⟨[.long], none⟩ := by decide +kernel
theorem zq_d5_0 : decode prog_79_method_3_code 0 = .ok (.aload_n 0, 1) := by decide +kernel
theorem zq_d5_1 : decode prog_79_method_3_code 1 = .ok (.lload_n 1, 1) := by decide +kernel
theorem zq_d5_2 : decode prog_79_method_3_code 2 = .ok (.invokevirtual 33, 3) := by decide +kernel
theorem zq_d5_5 : decode prog_79_method_3_code 5 = .ok (.aload_n 0, 1) := by decide +kernel
theorem zq_d5_6 : decode prog_79_method_3_code 6 = .ok (.dup, 1) := by decide +kernel
theorem zq_d5_7 : decode prog_79_method_3_code 7 = .ok (.getfield 22, 3) := by decide +kernel
theorem zq_d5_10 : decode prog_79_method_3_code 10 = .ok (.ldc2_w 37, 3) := by decide +kernel
theorem zq_d5_13 : decode prog_79_method_3_code 13 = .ok (.lxor, 1) := by decide +kernel
theorem zq_d5_14 : decode prog_79_method_3_code 14 = .ok (.putfield 22, 3) := by decide +kernel
theorem zq_d5_17 : decode prog_79_method_3_code 17 = .ok (.aload_n 0, 1) := by decide +kernel
theorem zq_d5_18 : decode prog_79_method_3_code 18 = .ok (.invokevirtual 30, 3) := by decide +kernel
theorem zq_d5_21 : decode prog_79_method_3_code 21 = .ok (.aload_n 0, 1) := by decide +kernel
theorem zq_d5_22 : decode prog_79_method_3_code 22 = .ok (.invokevirtual 30, 3) := by decide +kernel
theorem zq_d5_25 : decode prog_79_method_3_code 25 = .ok (.aload_n 0, 1) := by decide +kernel
theorem zq_d5_26 : decode prog_79_method_3_code 26 = .ok (.invokevirtual 30, 3) := by decide +kernel
theorem zq_d5_29 : decode prog_79_method_3_code 29 = .ok (.aload_n 0, 1) := by decide +kernel
theorem zq_d5_30 : decode prog_79_method_3_code 30 = .ok (.invokevirtual 30, 3) := by decide +kernel
theorem zq_d5_33 : decode prog_79_method_3_code 33 = .ok (.aload_n 0, 1) := by decide +kernel
theorem zq_d5_34 : decode prog_79_method_3_code 34 = .ok (.getfield 9, 3) := by decide +kernel
theorem zq_d5_37 : decode prog_79_method_3_code 37 = .ok (.aload_n 0, 1) := by decide +kernel
theorem zq_d5_38 : decode prog_79_method_3_code 38 = .ok (.getfield 17, 3) := by decide +kernel
theorem zq_d5_41 : decode prog_79_method_3_code 41 = .ok (.lxor, 1) := by decide +kernel
theorem zq_d5_42 : decode prog_79_method_3_code 42 = .ok (.aload_n 0, 1) := by decide +kernel
theorem zq_d5_43 : decode prog_79_method_3_code 43 = .ok (.getfield 22, 3) := by decide +kernel
theorem zq_d5_46 : decode prog_79_method_3_code 46 = .ok (.lxor, 1) := by decide +kernel
theorem zq_d5_47 : decode prog_79_method_3_code 47 = .ok (.aload_n 0, 1) := by decide +kernel
theorem zq_d5_48 : decode prog_79_method_3_code 48 = .ok (.getfield 27, 3) := by decide +kernel
theorem zq_d5_51 : decode prog_79_method_3_code 51 = .ok (.lxor, 1) := by decide +kernel
theorem zq_d5_52 : decode prog_79_method_3_code 52 = .ok (.lstore_n 3, 1) := by decide +kernel
theorem zq_d5_53 : decode prog_79_method_3_code 53 = .ok (.lload_n 3, 1) := by decide +kernel
theorem zq_d5_54 : decode prog_79_method_3_code 54 = .ok (.lload_n 3, 1) := by decide +kernel
theorem zq_d5_55 : decode prog_79_method_3_code 55 = .ok (.bipush 32, 2) := by decide +kernel
theorem zq_d5_57 : decode prog_79_method_3_code 57 = .ok (.lushr, 1) := by decide +kernel
theorem zq_d5_58 : decode prog_79_method_3_code 58 = .ok (.lxor, 1) := by decide +kernel
theorem zq_d5_59 : decode prog_79_method_3_code 59 = .ok (.l2i, 1) := by decide +kernel
theorem zq_d5_60 : decode prog_79_method_3_code 60 = .ok (.ireturn, 1) := by decide +kernel
theorem zq_ef5 (m : MethodId) (x0 : Addr) (x1 : Int64) : entryFrame m #[(.ref x0), (.long x1)] 5 = mkF m 0 #[.val (.ref x0), .val (.long x1), .second, .unset, .unset] [] := by first | (simp [entryFrame, mkF, argsToLocals, Value.category]; done) | rfl
set_option maxRecDepth 65536 in
set_option maxHeartbeats 40000000 in
theorem zq_rmSE (l : Launch) (Z : State) (a0 : Array Value) (hw : ∀ d ∈ tables_1, d.before a0 Z = true) (ws : List Jvm.Cond) (a : Addr) (mm : Int64) (h0 : Heap) (n0 : Nat) (v : zq_V) (E_a : Exa Z h0 a "com/example/clearline/clearline/formats/TableHash$Sip") (F_v0_a : Fld Z h0 a "com/example/clearline/clearline/formats/TableHash$Sip" "v0" "J" (.long v.1)) (F_v1_a : Fld Z h0 a "com/example/clearline/clearline/formats/TableHash$Sip" "v1" "J" (.long v.2.1)) (F_v2_a : Fld Z h0 a "com/example/clearline/clearline/formats/TableHash$Sip" "v2" "J" (.long v.2.2.1)) (F_v3_a : Fld Z h0 a "com/example/clearline/clearline/formats/TableHash$Sip" "v3" "J" (.long v.2.2.2)) (g_a : n0 ≤ a) :
    zq_Met l Z (⟨"com/example/clearline/clearline/formats/TableHash$Sip", "end", "(J)I"⟩ : MethodName) prog_79_method_3_code 5 (some .int) ws ({ frames := 3, cells := 0, slots := 0, locals := 41 } : Room) #[(.ref a), (.long mm)] h0 (fun r h L => r = some (.int (zq_en zq_rd v mm)) ∧ Fr n0 L ∧ Keep h0 h [a]) := by
  refine zq_body (plainFor_of_name zq_pn2) ?_
  intro p e s m below meth c s₁ hx hZ hby hml hret hlk hown hnm X0 e0
  refine zq_go (fun _ kq => castTop (zq_ef5 m a mm) kq) ?_
  have NF := Fr.nil n0
  have KP := Keep.refl h0 [a]
  have ZS : 0 ≤ h0.size := Nat.zero_le _
  show zq_Go p e below s _ _ _ (s₁.setTop (mkF m 0 #[.val (.ref a), .val (.long mm), .second, .unset, .unset] []))
  refine zq_go (fun _ kq => XS.aloadN X0.here hx rfl (hb hby zq_d5_0) rfl rfl kq) ?_
  show zq_Go p e below s _ _ _ (s₁.setTop (mkF m 1 #[.val (.ref a), .val (.long mm), .second, .unset, .unset] [(.ref a)]))
  refine zq_go (fun _ kq => XS.lloadN X0.here hx rfl (hb hby zq_d5_1) rfl kq) ?_
  show zq_Go p e below s _ _ _ (s₁.setTop (mkF m 2 #[.val (.ref a), .val (.long mm), .second, .unset, .unset] [(.long mm), (.ref a)]))
  obtain ⟨_, T1, L1, X1, ⟨rfl, Nq1, K1, G0_1, G1_1, G2_1, G3_1⟩, st1⟩ := zq_callV (W := 0) X0 hx hZ hown (hw _ (List.mem_of_getElem? (i := 43) rfl)) (hw _ (List.mem_of_getElem? (i := 44) rfl)) (hw _ (List.mem_of_getElem? (i := 46) rfl)) (hw _ (List.mem_of_getElem? (i := 45) rfl)) (hw _ (List.mem_of_getElem? (i := 21) rfl)) (hw _ (List.mem_of_getElem? (i := 47) rfl)) (by decide) (zq_rmST l Z a0 hw [] a mm h0 n0 (v.1, v.2.1, v.2.2.1, v.2.2.2) E_a F_v0_a F_v1_a F_v2_a F_v3_a g_a) e0 E_a (by decide) (by decide) (by decide) (by decide) (g := (mkF m 2 #[.val (.ref a), .val (.long mm), .second, .unset, .unset] [(.long mm), (.ref a)])) rfl (by rw [hml]; rfl) (a := a) (argsL := [(.long mm)]) (rest := []) (lenOf zq_pd5 rfl) rfl (by show 2 * 0 + _ ≤ _; exact Nat.le_of_eq rfl) (hb hby zq_d5_2)
  have E_a := E_a.keep K1
  have ZS := Nat.le_trans ZS K1.1
  have KP := KP.trans K1 (allS (P := fun x => x ∈ [a] ∨ h0.size ≤ x) (Or.inl (by simp)) (all0))
  obtain ⟨t1, ht1⟩ : ∃ z : zq_V, z = zq_tk zq_rd (v.1, v.2.1, v.2.2.1, v.2.2.2) mm := ⟨_, rfl⟩
  have F_v0_a : Fld Z T1.heap a "com/example/clearline/clearline/formats/TableHash$Sip" "v0" "J" (.long t1.1) := by rw [ht1]; exact G0_1
  have F_v1_a : Fld Z T1.heap a "com/example/clearline/clearline/formats/TableHash$Sip" "v1" "J" (.long t1.2.1) := by rw [ht1]; exact G1_1
  have F_v2_a : Fld Z T1.heap a "com/example/clearline/clearline/formats/TableHash$Sip" "v2" "J" (.long t1.2.2.1) := by rw [ht1]; exact G2_1
  have F_v3_a : Fld Z T1.heap a "com/example/clearline/clearline/formats/TableHash$Sip" "v3" "J" (.long t1.2.2.2) := by rw [ht1]; exact G3_1
  obtain ⟨L1, X1, NF⟩ : ∃ L : List Loc, Stand p l e ({ frames := 3, cells := 0, slots := 0, locals := 41 } : Room) s m #[(.ref a), (.long mm)] below meth c T1 L 0 0 ∧ Fr n0 L := ⟨_, X1, Fr.app NF Nq1⟩
  refine zq_go st1 ?_
  show zq_Go p e below s _ _ _ (T1.setTop (mkF m 5 #[.val (.ref a), .val (.long mm), .second, .unset, .unset] []))
  refine zq_go (fun _ kq => XS.aloadN X1.here hx rfl (hb hby zq_d5_5) rfl rfl kq) ?_
  show zq_Go p e below s _ _ _ (T1.setTop (mkF m 6 #[.val (.ref a), .val (.long mm), .second, .unset, .unset] [(.ref a)]))
  refine zq_go (fun _ kq => XS.dup X1.here hx rfl (hb hby zq_d5_6) rfl rfl kq) ?_
  show zq_Go p e below s _ _ _ (T1.setTop (mkF m 7 #[.val (.ref a), .val (.long mm), .second, .unset, .unset] [(.ref a), (.ref a)]))
  obtain ⟨T2, X2, e2, st2⟩ := getF X1 hx hZ hown (host := "") (Or.inl (hw _ (List.mem_of_getElem? (i := 33) rfl))) Via.refl rfl F_v2_a (g := (mkF m 7 #[.val (.ref a), .val (.long mm), .second, .unset, .unset] [(.ref a), (.ref a)])) rfl rfl (hb hby zq_d5_7)
  refine zq_go st2 ?_
  show zq_Go p e below s _ _ _ (T2.setTop (mkF m 10 #[.val (.ref a), .val (.long mm), .second, .unset, .unset] [(.long t1.2.2.1), (.ref a)]))
  refine zq_go (X2.ldc2Long hx hown (mvT hZ (hw _ (List.mem_of_getElem? (i := 56) rfl))) (g := (mkF m 10 #[.val (.ref a), .val (.long mm), .second, .unset, .unset] [(.long t1.2.2.1), (.ref a)])) rfl (hb hby zq_d5_10)) ?_
  show zq_Go p e below s _ _ _ (T2.setTop (mkF m 13 #[.val (.ref a), .val (.long mm), .second, .unset, .unset] [(.long (255 : Int64)), (.long t1.2.2.1), (.ref a)]))
  refine zq_go (fun _ kq => XS.lxor X2.here hx rfl (hb hby zq_d5_13) rfl kq) ?_
  show zq_Go p e below s _ _ _ (T2.setTop (mkF m 14 #[.val (.ref a), .val (.long mm), .second, .unset, .unset] [(.long (t1.2.2.1 ^^^ (255 : Int64))), (.ref a)]))
  obtain ⟨T3, h3, X3, e3, W3, st3⟩ := putF X2 hx hZ hown (host := "") (Or.inl (hw _ (List.mem_of_getElem? (i := 33) rfl))) Via.refl e2 F_v2_a E_a (Or.inl (hw _ (List.mem_of_getElem? (i := 34) rfl))) (hw _ (List.mem_of_getElem? (i := 20) rfl)) (ty := .long) (by decide) rfl rfl (g := (mkF m 14 #[.val (.ref a), .val (.long mm), .second, .unset, .unset] [(.long (t1.2.2.1 ^^^ (255 : Int64))), (.ref a)])) rfl rfl (hb hby zq_d5_14)
  refine zq_go st3 ?_
  have E_a := E_a.wr W3
  have F_v0_a := F_v0_a.other W3 (Or.inr (slot_ne (Or.inl (hw _ (List.mem_of_getElem? (i := 28) rfl))) (Or.inl (hw _ (List.mem_of_getElem? (i := 34) rfl))) (by decide) (t := .long) (t' := .long) (by decide) (by decide)))
  have F_v1_a := F_v1_a.other W3 (Or.inr (slot_ne (Or.inl (hw _ (List.mem_of_getElem? (i := 31) rfl))) (Or.inl (hw _ (List.mem_of_getElem? (i := 34) rfl))) (by decide) (t := .long) (t' := .long) (by decide) (by decide)))
  have F_v2_a := F_v2_a.same W3
  have F_v3_a := F_v3_a.other W3 (Or.inr (slot_ne (Or.inl (hw _ (List.mem_of_getElem? (i := 37) rfl))) (Or.inl (hw _ (List.mem_of_getElem? (i := 34) rfl))) (by decide) (t := .long) (t' := .long) (by decide) (by decide)))
  have ZS := Nat.le_trans ZS (Keep.of_wr W3).1
  have KP := KP.wr W3 (Or.inl (by simp))
  obtain ⟨L3, X3, NF⟩ : ∃ L : List Loc, Stand p l e ({ frames := 3, cells := 0, slots := 0, locals := 41 } : Room) s m #[(.ref a), (.long mm)] below meth c T3 L 0 0 ∧ Fr n0 L := ⟨_, X3, Fr.snoc X3 NF g_a⟩
  show zq_Go p e below s _ _ _ (T3.setTop (mkF m 17 #[.val (.ref a), .val (.long mm), .second, .unset, .unset] []))
  refine zq_go (fun _ kq => XS.aloadN X3.here hx rfl (hb hby zq_d5_17) rfl rfl kq) ?_
  show zq_Go p e below s _ _ _ (T3.setTop (mkF m 18 #[.val (.ref a), .val (.long mm), .second, .unset, .unset] [(.ref a)]))
  obtain ⟨_, T4, L4, X4, ⟨rfl, Nq4, K4, G0_4, G1_4, G2_4, G3_4⟩, st4⟩ := zq_callR (W := 0) X3 hx hZ hown (hw _ (List.mem_of_getElem? (i := 48) rfl)) (hw _ (List.mem_of_getElem? (i := 50) rfl)) (hw _ (List.mem_of_getElem? (i := 20) rfl)) (hw _ (List.mem_of_getElem? (i := 49) rfl)) (hw _ (List.mem_of_getElem? (i := 21) rfl)) (hw _ (List.mem_of_getElem? (i := 51) rfl)) (by decide) (zq_rmSR l Z a0 hw [] a h3 n0 (t1.1, t1.2.1, (t1.2.2.1 ^^^ (255 : Int64)), t1.2.2.2) E_a F_v0_a F_v1_a F_v2_a F_v3_a g_a) e3 E_a (by decide) (by decide) (by decide) (by decide) (g := (mkF m 18 #[.val (.ref a), .val (.long mm), .second, .unset, .unset] [(.ref a)])) rfl (by rw [hml]; rfl) (a := a) (argsL := []) (rest := []) (lenOf zq_pd4 rfl) rfl (by show 2 * 0 + _ ≤ _; exact Nat.le_of_eq rfl) (hb hby zq_d5_18)
  have E_a := E_a.keep K4
  have ZS := Nat.le_trans ZS K4.1
  have KP := KP.trans K4 (allS (P := fun x => x ∈ [a] ∨ h0.size ≤ x) (Or.inl (by simp)) (all0))
  obtain ⟨t4, ht4⟩ : ∃ z : zq_V, z = zq_rd (t1.1, t1.2.1, (t1.2.2.1 ^^^ (255 : Int64)), t1.2.2.2) := ⟨_, rfl⟩
  have F_v0_a : Fld Z T4.heap a "com/example/clearline/clearline/formats/TableHash$Sip" "v0" "J" (.long t4.1) := by rw [ht4]; exact G0_4
  have F_v1_a : Fld Z T4.heap a "com/example/clearline/clearline/formats/TableHash$Sip" "v1" "J" (.long t4.2.1) := by rw [ht4]; exact G1_4
  have F_v2_a : Fld Z T4.heap a "com/example/clearline/clearline/formats/TableHash$Sip" "v2" "J" (.long t4.2.2.1) := by rw [ht4]; exact G2_4
  have F_v3_a : Fld Z T4.heap a "com/example/clearline/clearline/formats/TableHash$Sip" "v3" "J" (.long t4.2.2.2) := by rw [ht4]; exact G3_4
  obtain ⟨L4, X4, NF⟩ : ∃ L : List Loc, Stand p l e ({ frames := 3, cells := 0, slots := 0, locals := 41 } : Room) s m #[(.ref a), (.long mm)] below meth c T4 L 0 0 ∧ Fr n0 L := ⟨_, X4, Fr.app NF Nq4⟩
  refine zq_go st4 ?_
  show zq_Go p e below s _ _ _ (T4.setTop (mkF m 21 #[.val (.ref a), .val (.long mm), .second, .unset, .unset] []))
  refine zq_go (fun _ kq => XS.aloadN X4.here hx rfl (hb hby zq_d5_21) rfl rfl kq) ?_
  show zq_Go p e below s _ _ _ (T4.setTop (mkF m 22 #[.val (.ref a), .val (.long mm), .second, .unset, .unset] [(.ref a)]))
  obtain ⟨_, T5, L5, X5, ⟨rfl, Nq5, K5, G0_5, G1_5, G2_5, G3_5⟩, st5⟩ := zq_callR (W := 0) X4 hx hZ hown (hw _ (List.mem_of_getElem? (i := 48) rfl)) (hw _ (List.mem_of_getElem? (i := 50) rfl)) (hw _ (List.mem_of_getElem? (i := 20) rfl)) (hw _ (List.mem_of_getElem? (i := 49) rfl)) (hw _ (List.mem_of_getElem? (i := 21) rfl)) (hw _ (List.mem_of_getElem? (i := 51) rfl)) (by decide) (zq_rmSR l Z a0 hw [] a T4.heap n0 (t4.1, t4.2.1, t4.2.2.1, t4.2.2.2) E_a F_v0_a F_v1_a F_v2_a F_v3_a g_a) rfl E_a (by decide) (by decide) (by decide) (by decide) (g := (mkF m 22 #[.val (.ref a), .val (.long mm), .second, .unset, .unset] [(.ref a)])) rfl (by rw [hml]; rfl) (a := a) (argsL := []) (rest := []) (lenOf zq_pd4 rfl) rfl (by show 2 * 0 + _ ≤ _; exact Nat.le_of_eq rfl) (hb hby zq_d5_22)
  have E_a := E_a.keep K5
  have ZS := Nat.le_trans ZS K5.1
  have KP := KP.trans K5 (allS (P := fun x => x ∈ [a] ∨ h0.size ≤ x) (Or.inl (by simp)) (all0))
  obtain ⟨t5, ht5⟩ : ∃ z : zq_V, z = zq_rd (t4.1, t4.2.1, t4.2.2.1, t4.2.2.2) := ⟨_, rfl⟩
  have F_v0_a : Fld Z T5.heap a "com/example/clearline/clearline/formats/TableHash$Sip" "v0" "J" (.long t5.1) := by rw [ht5]; exact G0_5
  have F_v1_a : Fld Z T5.heap a "com/example/clearline/clearline/formats/TableHash$Sip" "v1" "J" (.long t5.2.1) := by rw [ht5]; exact G1_5
  have F_v2_a : Fld Z T5.heap a "com/example/clearline/clearline/formats/TableHash$Sip" "v2" "J" (.long t5.2.2.1) := by rw [ht5]; exact G2_5
  have F_v3_a : Fld Z T5.heap a "com/example/clearline/clearline/formats/TableHash$Sip" "v3" "J" (.long t5.2.2.2) := by rw [ht5]; exact G3_5
  obtain ⟨L5, X5, NF⟩ : ∃ L : List Loc, Stand p l e ({ frames := 3, cells := 0, slots := 0, locals := 41 } : Room) s m #[(.ref a), (.long mm)] below meth c T5 L 0 0 ∧ Fr n0 L := ⟨_, X5, Fr.app NF Nq5⟩
  refine zq_go st5 ?_
  show zq_Go p e below s _ _ _ (T5.setTop (mkF m 25 #[.val (.ref a), .val (.long mm), .second, .unset, .unset] []))
  refine zq_go (fun _ kq => XS.aloadN X5.here hx rfl (hb hby zq_d5_25) rfl rfl kq) ?_
  show zq_Go p e below s _ _ _ (T5.setTop (mkF m 26 #[.val (.ref a), .val (.long mm), .second, .unset, .unset] [(.ref a)]))
  obtain ⟨_, T6, L6, X6, ⟨rfl, Nq6, K6, G0_6, G1_6, G2_6, G3_6⟩, st6⟩ := zq_callR (W := 0) X5 hx hZ hown (hw _ (List.mem_of_getElem? (i := 48) rfl)) (hw _ (List.mem_of_getElem? (i := 50) rfl)) (hw _ (List.mem_of_getElem? (i := 20) rfl)) (hw _ (List.mem_of_getElem? (i := 49) rfl)) (hw _ (List.mem_of_getElem? (i := 21) rfl)) (hw _ (List.mem_of_getElem? (i := 51) rfl)) (by decide) (zq_rmSR l Z a0 hw [] a T5.heap n0 (t5.1, t5.2.1, t5.2.2.1, t5.2.2.2) E_a F_v0_a F_v1_a F_v2_a F_v3_a g_a) rfl E_a (by decide) (by decide) (by decide) (by decide) (g := (mkF m 26 #[.val (.ref a), .val (.long mm), .second, .unset, .unset] [(.ref a)])) rfl (by rw [hml]; rfl) (a := a) (argsL := []) (rest := []) (lenOf zq_pd4 rfl) rfl (by show 2 * 0 + _ ≤ _; exact Nat.le_of_eq rfl) (hb hby zq_d5_26)
  have E_a := E_a.keep K6
  have ZS := Nat.le_trans ZS K6.1
  have KP := KP.trans K6 (allS (P := fun x => x ∈ [a] ∨ h0.size ≤ x) (Or.inl (by simp)) (all0))
  obtain ⟨t6, ht6⟩ : ∃ z : zq_V, z = zq_rd (t5.1, t5.2.1, t5.2.2.1, t5.2.2.2) := ⟨_, rfl⟩
  have F_v0_a : Fld Z T6.heap a "com/example/clearline/clearline/formats/TableHash$Sip" "v0" "J" (.long t6.1) := by rw [ht6]; exact G0_6
  have F_v1_a : Fld Z T6.heap a "com/example/clearline/clearline/formats/TableHash$Sip" "v1" "J" (.long t6.2.1) := by rw [ht6]; exact G1_6
  have F_v2_a : Fld Z T6.heap a "com/example/clearline/clearline/formats/TableHash$Sip" "v2" "J" (.long t6.2.2.1) := by rw [ht6]; exact G2_6
  have F_v3_a : Fld Z T6.heap a "com/example/clearline/clearline/formats/TableHash$Sip" "v3" "J" (.long t6.2.2.2) := by rw [ht6]; exact G3_6
  obtain ⟨L6, X6, NF⟩ : ∃ L : List Loc, Stand p l e ({ frames := 3, cells := 0, slots := 0, locals := 41 } : Room) s m #[(.ref a), (.long mm)] below meth c T6 L 0 0 ∧ Fr n0 L := ⟨_, X6, Fr.app NF Nq6⟩
  refine zq_go st6 ?_
  show zq_Go p e below s _ _ _ (T6.setTop (mkF m 29 #[.val (.ref a), .val (.long mm), .second, .unset, .unset] []))
  refine zq_go (fun _ kq => XS.aloadN X6.here hx rfl (hb hby zq_d5_29) rfl rfl kq) ?_
  show zq_Go p e below s _ _ _ (T6.setTop (mkF m 30 #[.val (.ref a), .val (.long mm), .second, .unset, .unset] [(.ref a)]))
  obtain ⟨_, T7, L7, X7, ⟨rfl, Nq7, K7, G0_7, G1_7, G2_7, G3_7⟩, st7⟩ := zq_callR (W := 0) X6 hx hZ hown (hw _ (List.mem_of_getElem? (i := 48) rfl)) (hw _ (List.mem_of_getElem? (i := 50) rfl)) (hw _ (List.mem_of_getElem? (i := 20) rfl)) (hw _ (List.mem_of_getElem? (i := 49) rfl)) (hw _ (List.mem_of_getElem? (i := 21) rfl)) (hw _ (List.mem_of_getElem? (i := 51) rfl)) (by decide) (zq_rmSR l Z a0 hw [] a T6.heap n0 (t6.1, t6.2.1, t6.2.2.1, t6.2.2.2) E_a F_v0_a F_v1_a F_v2_a F_v3_a g_a) rfl E_a (by decide) (by decide) (by decide) (by decide) (g := (mkF m 30 #[.val (.ref a), .val (.long mm), .second, .unset, .unset] [(.ref a)])) rfl (by rw [hml]; rfl) (a := a) (argsL := []) (rest := []) (lenOf zq_pd4 rfl) rfl (by show 2 * 0 + _ ≤ _; exact Nat.le_of_eq rfl) (hb hby zq_d5_30)
  have E_a := E_a.keep K7
  have ZS := Nat.le_trans ZS K7.1
  have KP := KP.trans K7 (allS (P := fun x => x ∈ [a] ∨ h0.size ≤ x) (Or.inl (by simp)) (all0))
  obtain ⟨t7, ht7⟩ : ∃ z : zq_V, z = zq_rd (t6.1, t6.2.1, t6.2.2.1, t6.2.2.2) := ⟨_, rfl⟩
  have F_v0_a : Fld Z T7.heap a "com/example/clearline/clearline/formats/TableHash$Sip" "v0" "J" (.long t7.1) := by rw [ht7]; exact G0_7
  have F_v1_a : Fld Z T7.heap a "com/example/clearline/clearline/formats/TableHash$Sip" "v1" "J" (.long t7.2.1) := by rw [ht7]; exact G1_7
  have F_v2_a : Fld Z T7.heap a "com/example/clearline/clearline/formats/TableHash$Sip" "v2" "J" (.long t7.2.2.1) := by rw [ht7]; exact G2_7
  have F_v3_a : Fld Z T7.heap a "com/example/clearline/clearline/formats/TableHash$Sip" "v3" "J" (.long t7.2.2.2) := by rw [ht7]; exact G3_7
  obtain ⟨L7, X7, NF⟩ : ∃ L : List Loc, Stand p l e ({ frames := 3, cells := 0, slots := 0, locals := 41 } : Room) s m #[(.ref a), (.long mm)] below meth c T7 L 0 0 ∧ Fr n0 L := ⟨_, X7, Fr.app NF Nq7⟩
  refine zq_go st7 ?_
  show zq_Go p e below s _ _ _ (T7.setTop (mkF m 33 #[.val (.ref a), .val (.long mm), .second, .unset, .unset] []))
  refine zq_go (fun _ kq => XS.aloadN X7.here hx rfl (hb hby zq_d5_33) rfl rfl kq) ?_
  show zq_Go p e below s _ _ _ (T7.setTop (mkF m 34 #[.val (.ref a), .val (.long mm), .second, .unset, .unset] [(.ref a)]))
  obtain ⟨T8, X8, e8, st8⟩ := getF X7 hx hZ hown (host := "") (Or.inl (hw _ (List.mem_of_getElem? (i := 27) rfl))) Via.refl rfl F_v0_a (g := (mkF m 34 #[.val (.ref a), .val (.long mm), .second, .unset, .unset] [(.ref a)])) rfl rfl (hb hby zq_d5_34)
  refine zq_go st8 ?_
  show zq_Go p e below s _ _ _ (T8.setTop (mkF m 37 #[.val (.ref a), .val (.long mm), .second, .unset, .unset] [(.long t7.1)]))
  refine zq_go (fun _ kq => XS.aloadN X8.here hx rfl (hb hby zq_d5_37) rfl rfl kq) ?_
  show zq_Go p e below s _ _ _ (T8.setTop (mkF m 38 #[.val (.ref a), .val (.long mm), .second, .unset, .unset] [(.ref a), (.long t7.1)]))
  obtain ⟨T9, X9, e9, st9⟩ := getF X8 hx hZ hown (host := "") (Or.inl (hw _ (List.mem_of_getElem? (i := 30) rfl))) Via.refl e8 F_v1_a (g := (mkF m 38 #[.val (.ref a), .val (.long mm), .second, .unset, .unset] [(.ref a), (.long t7.1)])) rfl rfl (hb hby zq_d5_38)
  refine zq_go st9 ?_
  show zq_Go p e below s _ _ _ (T9.setTop (mkF m 41 #[.val (.ref a), .val (.long mm), .second, .unset, .unset] [(.long t7.2.1), (.long t7.1)]))
  refine zq_go (fun _ kq => XS.lxor X9.here hx rfl (hb hby zq_d5_41) rfl kq) ?_
  show zq_Go p e below s _ _ _ (T9.setTop (mkF m 42 #[.val (.ref a), .val (.long mm), .second, .unset, .unset] [(.long (t7.1 ^^^ t7.2.1))]))
  refine zq_go (fun _ kq => XS.aloadN X9.here hx rfl (hb hby zq_d5_42) rfl rfl kq) ?_
  show zq_Go p e below s _ _ _ (T9.setTop (mkF m 43 #[.val (.ref a), .val (.long mm), .second, .unset, .unset] [(.ref a), (.long (t7.1 ^^^ t7.2.1))]))
  obtain ⟨T10, X10, e10, st10⟩ := getF X9 hx hZ hown (host := "") (Or.inl (hw _ (List.mem_of_getElem? (i := 33) rfl))) Via.refl e9 F_v2_a (g := (mkF m 43 #[.val (.ref a), .val (.long mm), .second, .unset, .unset] [(.ref a), (.long (t7.1 ^^^ t7.2.1))])) rfl rfl (hb hby zq_d5_43)
  refine zq_go st10 ?_
  show zq_Go p e below s _ _ _ (T10.setTop (mkF m 46 #[.val (.ref a), .val (.long mm), .second, .unset, .unset] [(.long t7.2.2.1), (.long (t7.1 ^^^ t7.2.1))]))
  refine zq_go (fun _ kq => XS.lxor X10.here hx rfl (hb hby zq_d5_46) rfl kq) ?_
  show zq_Go p e below s _ _ _ (T10.setTop (mkF m 47 #[.val (.ref a), .val (.long mm), .second, .unset, .unset] [(.long ((t7.1 ^^^ t7.2.1) ^^^ t7.2.2.1))]))
  refine zq_go (fun _ kq => XS.aloadN X10.here hx rfl (hb hby zq_d5_47) rfl rfl kq) ?_
  show zq_Go p e below s _ _ _ (T10.setTop (mkF m 48 #[.val (.ref a), .val (.long mm), .second, .unset, .unset] [(.ref a), (.long ((t7.1 ^^^ t7.2.1) ^^^ t7.2.2.1))]))
  obtain ⟨T11, X11, e11, st11⟩ := getF X10 hx hZ hown (host := "") (Or.inl (hw _ (List.mem_of_getElem? (i := 36) rfl))) Via.refl e10 F_v3_a (g := (mkF m 48 #[.val (.ref a), .val (.long mm), .second, .unset, .unset] [(.ref a), (.long ((t7.1 ^^^ t7.2.1) ^^^ t7.2.2.1))])) rfl rfl (hb hby zq_d5_48)
  refine zq_go st11 ?_
  show zq_Go p e below s _ _ _ (T11.setTop (mkF m 51 #[.val (.ref a), .val (.long mm), .second, .unset, .unset] [(.long t7.2.2.2), (.long ((t7.1 ^^^ t7.2.1) ^^^ t7.2.2.1))]))
  refine zq_go (fun _ kq => XS.lxor X11.here hx rfl (hb hby zq_d5_51) rfl kq) ?_
  show zq_Go p e below s _ _ _ (T11.setTop (mkF m 52 #[.val (.ref a), .val (.long mm), .second, .unset, .unset] [(.long (((t7.1 ^^^ t7.2.1) ^^^ t7.2.2.1) ^^^ t7.2.2.2))]))
  refine zq_go (fun _ kq => XS.lstoreN X11.here hx rfl (hb hby zq_d5_52) rfl (l' := #[.val (.ref a), .val (.long mm), .second, .val (.long (((t7.1 ^^^ t7.2.1) ^^^ t7.2.2.1) ^^^ t7.2.2.2)), .second]) rfl kq) ?_
  show zq_Go p e below s _ _ _ (T11.setTop (mkF m 53 #[.val (.ref a), .val (.long mm), .second, .val (.long (((t7.1 ^^^ t7.2.1) ^^^ t7.2.2.1) ^^^ t7.2.2.2)), .second] []))
  refine zq_go (fun _ kq => XS.lloadN X11.here hx rfl (hb hby zq_d5_53) rfl kq) ?_
  show zq_Go p e below s _ _ _ (T11.setTop (mkF m 54 #[.val (.ref a), .val (.long mm), .second, .val (.long (((t7.1 ^^^ t7.2.1) ^^^ t7.2.2.1) ^^^ t7.2.2.2)), .second] [(.long (((t7.1 ^^^ t7.2.1) ^^^ t7.2.2.1) ^^^ t7.2.2.2))]))
  refine zq_go (fun _ kq => XS.lloadN X11.here hx rfl (hb hby zq_d5_54) rfl kq) ?_
  show zq_Go p e below s _ _ _ (T11.setTop (mkF m 55 #[.val (.ref a), .val (.long mm), .second, .val (.long (((t7.1 ^^^ t7.2.1) ^^^ t7.2.2.1) ^^^ t7.2.2.2)), .second] [(.long (((t7.1 ^^^ t7.2.1) ^^^ t7.2.2.1) ^^^ t7.2.2.2)), (.long (((t7.1 ^^^ t7.2.1) ^^^ t7.2.2.1) ^^^ t7.2.2.2))]))
  refine zq_go (fun _ kq => XS.bipush X11.here hx rfl (hb hby zq_d5_55) kq) ?_
  show zq_Go p e below s _ _ _ (T11.setTop (mkF m 57 #[.val (.ref a), .val (.long mm), .second, .val (.long (((t7.1 ^^^ t7.2.1) ^^^ t7.2.2.1) ^^^ t7.2.2.2)), .second] [(.int (32 : Int32)), (.long (((t7.1 ^^^ t7.2.1) ^^^ t7.2.2.1) ^^^ t7.2.2.2)), (.long (((t7.1 ^^^ t7.2.1) ^^^ t7.2.2.1) ^^^ t7.2.2.2))]))
  refine zq_go (fun _ kq => XS.lushr X11.here hx rfl (hb hby zq_d5_57) rfl kq) ?_
  show zq_Go p e below s _ _ _ (T11.setTop (mkF m 58 #[.val (.ref a), .val (.long mm), .second, .val (.long (((t7.1 ^^^ t7.2.1) ^^^ t7.2.2.1) ^^^ t7.2.2.2)), .second] [(.long (((((t7.1 ^^^ t7.2.1) ^^^ t7.2.2.1) ^^^ t7.2.2.2).toUInt64 >>> ((32 : Int32) &&& 0x3f).toInt64.toUInt64).toInt64)), (.long (((t7.1 ^^^ t7.2.1) ^^^ t7.2.2.1) ^^^ t7.2.2.2))]))
  refine zq_go (fun _ kq => XS.lxor X11.here hx rfl (hb hby zq_d5_58) rfl kq) ?_
  show zq_Go p e below s _ _ _ (T11.setTop (mkF m 59 #[.val (.ref a), .val (.long mm), .second, .val (.long (((t7.1 ^^^ t7.2.1) ^^^ t7.2.2.1) ^^^ t7.2.2.2)), .second] [(.long ((((t7.1 ^^^ t7.2.1) ^^^ t7.2.2.1) ^^^ t7.2.2.2) ^^^ (((((t7.1 ^^^ t7.2.1) ^^^ t7.2.2.1) ^^^ t7.2.2.2).toUInt64 >>> ((32 : Int32) &&& 0x3f).toInt64.toUInt64).toInt64)))]))
  refine zq_go (fun _ kq => XS.l2i X11.here hx rfl (hb hby zq_d5_59) rfl kq) ?_
  show zq_Go p e below s _ _ _ (T11.setTop (mkF m 60 #[.val (.ref a), .val (.long mm), .second, .val (.long (((t7.1 ^^^ t7.2.1) ^^^ t7.2.2.1) ^^^ t7.2.2.2)), .second] [(.int (((((t7.1 ^^^ t7.2.1) ^^^ t7.2.2.1) ^^^ t7.2.2.2) ^^^ (((((t7.1 ^^^ t7.2.1) ^^^ t7.2.2.1) ^^^ t7.2.2.2).toUInt64 >>> ((32 : Int32) &&& 0x3f).toInt64.toUInt64).toInt64)).toInt32))]))
  exact zq_retI X11 hx hlk hret (hb hby zq_d5_60) (by rw [e11]; exact ⟨by subst ht7; subst ht6; subst ht5; subst ht4; subst ht1; rfl, NF, KP⟩) (by decide) (by decide)
theorem zq_pn6 : plainName "com/example/clearline/clearline/formats/TableHash" = true := by first | (simp [plainName, overriddenIn]; done) | decide +kernel
theorem zq_d1_0 : decode prog_78_method_1_code 0 = .ok (.aload_n 0, 1) := by decide +kernel
theorem zq_d1_1 : decode prog_78_method_1_code 1 = .ok (.invokespecial 1, 3) := by decide +kernel
theorem zq_d1_4 : decode prog_78_method_1_code 4 = .ok (.aload_n 0, 1) := by decide +kernel
theorem zq_d1_5 : decode prog_78_method_1_code 5 = .ok (.lload_n 1, 1) := by decide +kernel
theorem zq_d1_6 : decode prog_78_method_1_code 6 = .ok (.putfield 7, 3) := by decide +kernel
theorem zq_d1_9 : decode prog_78_method_1_code 9 = .ok (.aload_n 0, 1) := by decide +kernel
theorem zq_d1_10 : decode prog_78_method_1_code 10 = .ok (.lload_n 3, 1) := by decide +kernel
theorem zq_d1_11 : decode prog_78_method_1_code 11 = .ok (.putfield 13, 3) := by decide +kernel
theorem zq_d1_14 : decode prog_78_method_1_code 14 = .ok (.return_, 1) := by decide +kernel
theorem zq_ef1 (m : MethodId) (x0 : Addr) (x1 : Int64) (x2 : Int64) : entryFrame m #[(.ref x0), (.long x1), (.long x2)] 5 = mkF m 0 #[.val (.ref x0), .val (.long x1), .second, .val (.long x2), .second] [] := by first | (simp [entryFrame, mkF, argsToLocals, Value.category]; done) | rfl
set_option maxRecDepth 65536 in
set_option maxHeartbeats 40000000 in
theorem zq_rmTI (l : Launch) (Z : State) (a0 : Array Value) (hw : ∀ d ∈ tables_1, d.before a0 Z = true) (ws : List Jvm.Cond) (a : Addr) (k0 : Int64) (k1 : Int64) (h0 : Heap) (n0 : Nat) (u0 u1 : Value) (E_a : Exa Z h0 a "com/example/clearline/clearline/formats/TableHash") (F_key0_a : Fld Z h0 a "com/example/clearline/clearline/formats/TableHash" "key0" "J" u0) (F_key1_a : Fld Z h0 a "com/example/clearline/clearline/formats/TableHash" "key1" "J" u1) (g_a : n0 ≤ a) :
    zq_Met l Z (⟨"com/example/clearline/clearline/formats/TableHash", "<init>", "(JJ)V"⟩ : MethodName) prog_78_method_1_code 5 none ws ({ frames := 1, cells := 0, slots := 0, locals := 12 } : Room) #[(.ref a), (.long k0), (.long k1)] h0 (fun r h L => r = none ∧ Fr n0 L ∧ Keep h0 h [a] ∧ Fld Z h a "com/example/clearline/clearline/formats/TableHash" "key0" "J" (.long k0) ∧ Fld Z h a "com/example/clearline/clearline/formats/TableHash" "key1" "J" (.long k1)) := by
  refine zq_body (plainFor_of_name zq_pn6) ?_
  intro p e s m below meth c s₁ hx hZ hby hml hret hlk hown hnm X0 e0
  refine zq_go (fun _ kq => castTop (zq_ef1 m a k0 k1) kq) ?_
  have NF := Fr.nil n0
  have KP := Keep.refl h0 [a]
  have ZS : 0 ≤ h0.size := Nat.zero_le _
  show zq_Go p e below s _ _ _ (s₁.setTop (mkF m 0 #[.val (.ref a), .val (.long k0), .second, .val (.long k1), .second] []))
  refine zq_go (fun _ kq => XS.aloadN X0.here hx rfl (hb hby zq_d1_0) rfl rfl kq) ?_
  show zq_Go p e below s _ _ _ (s₁.setTop (mkF m 1 #[.val (.ref a), .val (.long k0), .second, .val (.long k1), .second] [(.ref a)]))
  obtain ⟨T1, X1, e1, st1⟩ := initO X0 hx hZ hown (hw _ (List.mem_of_getElem? (i := 7) rfl)) (hw _ (List.mem_of_getElem? (i := 8) rfl)) (hw _ (List.mem_of_getElem? (i := 9) rfl)) e0 (g := (mkF m 1 #[.val (.ref a), .val (.long k0), .second, .val (.long k1), .second] [(.ref a)])) rfl (by rw [hml]; rfl) rfl (hb hby zq_d1_1) (by decide) (W := 0) (by show 2 * 0 + _ ≤ _; exact Nat.le_of_eq rfl) (by decide)
  refine zq_go st1 ?_
  show zq_Go p e below s _ _ _ (T1.setTop (mkF m 4 #[.val (.ref a), .val (.long k0), .second, .val (.long k1), .second] []))
  refine zq_go (fun _ kq => XS.aloadN X1.here hx rfl (hb hby zq_d1_4) rfl rfl kq) ?_
  show zq_Go p e below s _ _ _ (T1.setTop (mkF m 5 #[.val (.ref a), .val (.long k0), .second, .val (.long k1), .second] [(.ref a)]))
  refine zq_go (fun _ kq => XS.lloadN X1.here hx rfl (hb hby zq_d1_5) rfl kq) ?_
  show zq_Go p e below s _ _ _ (T1.setTop (mkF m 6 #[.val (.ref a), .val (.long k0), .second, .val (.long k1), .second] [(.long k0), (.ref a)]))
  obtain ⟨T2, h2, X2, e2, W2, st2⟩ := putF X1 hx hZ hown (host := "") (Or.inl (hw _ (List.mem_of_getElem? (i := 10) rfl))) Via.refl e1 F_key0_a E_a (Or.inr ⟨(hw _ (List.mem_of_getElem? (i := 11) rfl)), rfl, hnm⟩) (hw _ (List.mem_of_getElem? (i := 2) rfl)) (ty := .long) (by decide) rfl rfl (g := (mkF m 6 #[.val (.ref a), .val (.long k0), .second, .val (.long k1), .second] [(.long k0), (.ref a)])) rfl rfl (hb hby zq_d1_6)
  refine zq_go st2 ?_
  have E_a := E_a.wr W2
  have F_key0_a := F_key0_a.same W2
  have F_key1_a := F_key1_a.other W2 (Or.inr (slot_ne (Or.inr (hw _ (List.mem_of_getElem? (i := 13) rfl))) (Or.inr (hw _ (List.mem_of_getElem? (i := 11) rfl))) (by decide) (t := .long) (t' := .long) (by decide) (by decide)))
  have ZS := Nat.le_trans ZS (Keep.of_wr W2).1
  have KP := KP.wr W2 (Or.inl (by simp))
  obtain ⟨L2, X2, NF⟩ : ∃ L : List Loc, Stand p l e ({ frames := 1, cells := 0, slots := 0, locals := 12 } : Room) s m #[(.ref a), (.long k0), (.long k1)] below meth c T2 L 0 0 ∧ Fr n0 L := ⟨_, X2, Fr.snoc X2 NF g_a⟩
  show zq_Go p e below s _ _ _ (T2.setTop (mkF m 9 #[.val (.ref a), .val (.long k0), .second, .val (.long k1), .second] []))
  refine zq_go (fun _ kq => XS.aloadN X2.here hx rfl (hb hby zq_d1_9) rfl rfl kq) ?_
  show zq_Go p e below s _ _ _ (T2.setTop (mkF m 10 #[.val (.ref a), .val (.long k0), .second, .val (.long k1), .second] [(.ref a)]))
  refine zq_go (fun _ kq => XS.lloadN X2.here hx rfl (hb hby zq_d1_10) rfl kq) ?_
  show zq_Go p e below s _ _ _ (T2.setTop (mkF m 11 #[.val (.ref a), .val (.long k0), .second, .val (.long k1), .second] [(.long k1), (.ref a)]))
  obtain ⟨T3, h3, X3, e3, W3, st3⟩ := putF X2 hx hZ hown (host := "") (Or.inl (hw _ (List.mem_of_getElem? (i := 12) rfl))) Via.refl e2 F_key1_a E_a (Or.inr ⟨(hw _ (List.mem_of_getElem? (i := 13) rfl)), rfl, hnm⟩) (hw _ (List.mem_of_getElem? (i := 2) rfl)) (ty := .long) (by decide) rfl rfl (g := (mkF m 11 #[.val (.ref a), .val (.long k0), .second, .val (.long k1), .second] [(.long k1), (.ref a)])) rfl rfl (hb hby zq_d1_11)
  refine zq_go st3 ?_
  have E_a := E_a.wr W3
  have F_key0_a := F_key0_a.other W3 (Or.inr (slot_ne (Or.inr (hw _ (List.mem_of_getElem? (i := 11) rfl))) (Or.inr (hw _ (List.mem_of_getElem? (i := 13) rfl))) (by decide) (t := .long) (t' := .long) (by decide) (by decide)))
  have F_key1_a := F_key1_a.same W3
  have ZS := Nat.le_trans ZS (Keep.of_wr W3).1
  have KP := KP.wr W3 (Or.inl (by simp))
  obtain ⟨L3, X3, NF⟩ : ∃ L : List Loc, Stand p l e ({ frames := 1, cells := 0, slots := 0, locals := 12 } : Room) s m #[(.ref a), (.long k0), (.long k1)] below meth c T3 L 0 0 ∧ Fr n0 L := ⟨_, X3, Fr.snoc X3 NF g_a⟩
  show zq_Go p e below s _ _ _ (T3.setTop (mkF m 14 #[.val (.ref a), .val (.long k0), .second, .val (.long k1), .second] []))
  exact zq_ret0 X3 hx hlk hret (hb hby zq_d1_14) (by rw [e3]; exact ⟨rfl, NF, KP, F_key0_a, F_key1_a⟩) (by decide) (by decide)
theorem zq_pd7 : parseMethodDescriptor "(JJ)V" = some ⟨[.long, .long], none⟩ := by decide +kernel
theorem zq_pd8 : parseMethodDescriptor "(J)I" = some ⟨[.long], some .int⟩ := by decide +kernel
theorem zq_d3_0 : decode prog_78_method_4_code 0 = .ok (.new 33, 3) := by decide +kernel
theorem zq_d3_3 : decode prog_78_method_4_code 3 = .ok (.dup, 1) := by decide +kernel
theorem zq_d3_4 : decode prog_78_method_4_code 4 = .ok (.aload_n 0, 1) := by decide +kernel
theorem zq_d3_5 : decode prog_78_method_4_code 5 = .ok (.getfield 7, 3) := by decide +kernel
theorem zq_d3_8 : decode prog_78_method_4_code 8 = .ok (.aload_n 0, 1) := by decide +kernel
theorem zq_d3_9 : decode prog_78_method_4_code 9 = .ok (.getfield 13, 3) := by decide +kernel
theorem zq_d3_12 : decode prog_78_method_4_code 12 = .ok (.invokespecial 35, 3) := by decide +kernel
theorem zq_d3_15 : decode prog_78_method_4_code 15 = .ok (.astore 4, 2) := by decide +kernel
theorem zq_d3_17 : decode prog_78_method_4_code 17 = .ok (.iload_n 2, 1) := by decide +kernel
theorem zq_d3_18 : decode prog_78_method_4_code 18 = .ok (.iload_n 3, 1) := by decide +kernel
theorem zq_d3_19 : decode prog_78_method_4_code 19 = .ok (.iload_n 2, 1) := by decide +kernel
theorem zq_d3_20 : decode prog_78_method_4_code 20 = .ok (.isub, 1) := by decide +kernel
theorem zq_d3_21 : decode prog_78_method_4_code 21 = .ok (.iconst 4, 1) := by decide +kernel
theorem zq_d3_22 : decode prog_78_method_4_code 22 = .ok (.idiv, 1) := by decide +kernel
theorem zq_d3_23 : decode prog_78_method_4_code 23 = .ok (.iconst 4, 1) := by decide +kernel
theorem zq_d3_24 : decode prog_78_method_4_code 24 = .ok (.imul, 1) := by decide +kernel
theorem zq_d3_25 : decode prog_78_method_4_code 25 = .ok (.iadd, 1) := by decide +kernel
theorem zq_d3_26 : decode prog_78_method_4_code 26 = .ok (.istore 5, 2) := by decide +kernel
theorem zq_d3_28 : decode prog_78_method_4_code 28 = .ok (.iload_n 2, 1) := by decide +kernel
theorem zq_d3_29 : decode prog_78_method_4_code 29 = .ok (.istore 6, 2) := by decide +kernel
theorem zq_d3_31 : decode prog_78_method_4_code 31 = .ok (.iload 6, 2) := by decide +kernel
theorem zq_d3_33 : decode prog_78_method_4_code 33 = .ok (.iload 5, 2) := by decide +kernel
theorem zq_d3_35 : decode prog_78_method_4_code 35 = .ok (.if_icmp .ge 52, 3) := by decide +kernel
theorem zq_d3_38 : decode prog_78_method_4_code 38 = .ok (.aload 4, 2) := by decide +kernel
theorem zq_d3_40 : decode prog_78_method_4_code 40 = .ok (.aload_n 1, 1) := by decide +kernel
theorem zq_d3_41 : decode prog_78_method_4_code 41 = .ok (.iload 6, 2) := by decide +kernel
theorem zq_d3_43 : decode prog_78_method_4_code 43 = .ok (.caload, 1) := by decide +kernel
theorem zq_d3_44 : decode prog_78_method_4_code 44 = .ok (.i2l, 1) := by decide +kernel
theorem zq_d3_45 : decode prog_78_method_4_code 45 = .ok (.aload_n 1, 1) := by decide +kernel
theorem zq_d3_46 : decode prog_78_method_4_code 46 = .ok (.iload 6, 2) := by decide +kernel
theorem zq_d3_48 : decode prog_78_method_4_code 48 = .ok (.iconst 1, 1) := by decide +kernel
theorem zq_d3_49 : decode prog_78_method_4_code 49 = .ok (.iadd, 1) := by decide +kernel
theorem zq_d3_50 : decode prog_78_method_4_code 50 = .ok (.caload, 1) := by decide +kernel
theorem zq_d3_51 : decode prog_78_method_4_code 51 = .ok (.i2l, 1) := by decide +kernel
theorem zq_d3_52 : decode prog_78_method_4_code 52 = .ok (.bipush 16, 2) := by decide +kernel
theorem zq_d3_54 : decode prog_78_method_4_code 54 = .ok (.lshl, 1) := by decide +kernel
theorem zq_d3_55 : decode prog_78_method_4_code 55 = .ok (.lor, 1) := by decide +kernel
theorem zq_d3_56 : decode prog_78_method_4_code 56 = .ok (.aload_n 1, 1) := by decide +kernel
theorem zq_d3_57 : decode prog_78_method_4_code 57 = .ok (.iload 6, 2) := by decide +kernel
theorem zq_d3_59 : decode prog_78_method_4_code 59 = .ok (.iconst 2, 1) := by decide +kernel
theorem zq_d3_60 : decode prog_78_method_4_code 60 = .ok (.iadd, 1) := by decide +kernel
theorem zq_d3_61 : decode prog_78_method_4_code 61 = .ok (.caload, 1) := by decide +kernel
theorem zq_d3_62 : decode prog_78_method_4_code 62 = .ok (.i2l, 1) := by decide +kernel
theorem zq_d3_63 : decode prog_78_method_4_code 63 = .ok (.bipush 32, 2) := by decide +kernel
theorem zq_d3_65 : decode prog_78_method_4_code 65 = .ok (.lshl, 1) := by decide +kernel
theorem zq_d3_66 : decode prog_78_method_4_code 66 = .ok (.lor, 1) := by decide +kernel
theorem zq_d3_67 : decode prog_78_method_4_code 67 = .ok (.aload_n 1, 1) := by decide +kernel
theorem zq_d3_68 : decode prog_78_method_4_code 68 = .ok (.iload 6, 2) := by decide +kernel
theorem zq_d3_70 : decode prog_78_method_4_code 70 = .ok (.iconst 3, 1) := by decide +kernel
theorem zq_d3_71 : decode prog_78_method_4_code 71 = .ok (.iadd, 1) := by decide +kernel
theorem zq_d3_72 : decode prog_78_method_4_code 72 = .ok (.caload, 1) := by decide +kernel
theorem zq_d3_73 : decode prog_78_method_4_code 73 = .ok (.i2l, 1) := by decide +kernel
theorem zq_d3_74 : decode prog_78_method_4_code 74 = .ok (.bipush 48, 2) := by decide +kernel
theorem zq_d3_76 : decode prog_78_method_4_code 76 = .ok (.lshl, 1) := by decide +kernel
theorem zq_d3_77 : decode prog_78_method_4_code 77 = .ok (.lor, 1) := by decide +kernel
theorem zq_d3_78 : decode prog_78_method_4_code 78 = .ok (.invokevirtual 36, 3) := by decide +kernel
theorem zq_d3_81 : decode prog_78_method_4_code 81 = .ok (.iinc 6 4, 3) := by decide +kernel
theorem zq_d3_84 : decode prog_78_method_4_code 84 = .ok (.goto (-53), 3) := by decide +kernel
theorem zq_d3_87 : decode prog_78_method_4_code 87 = .ok (.iconst 2, 1) := by decide +kernel
theorem zq_d3_88 : decode prog_78_method_4_code 88 = .ok (.iload_n 3, 1) := by decide +kernel
theorem zq_d3_89 : decode prog_78_method_4_code 89 = .ok (.iload_n 2, 1) := by decide +kernel
theorem zq_d3_90 : decode prog_78_method_4_code 90 = .ok (.isub, 1) := by decide +kernel
theorem zq_d3_91 : decode prog_78_method_4_code 91 = .ok (.imul, 1) := by decide +kernel
theorem zq_d3_92 : decode prog_78_method_4_code 92 = .ok (.i2l, 1) := by decide +kernel
theorem zq_d3_93 : decode prog_78_method_4_code 93 = .ok (.bipush 56, 2) := by decide +kernel
theorem zq_d3_95 : decode prog_78_method_4_code 95 = .ok (.lshl, 1) := by decide +kernel
theorem zq_d3_96 : decode prog_78_method_4_code 96 = .ok (.lstore 6, 2) := by decide +kernel
theorem zq_d3_98 : decode prog_78_method_4_code 98 = .ok (.iload 5, 2) := by decide +kernel
theorem zq_d3_100 : decode prog_78_method_4_code 100 = .ok (.istore 8, 2) := by decide +kernel
theorem zq_d3_102 : decode prog_78_method_4_code 102 = .ok (.iload 8, 2) := by decide +kernel
theorem zq_d3_104 : decode prog_78_method_4_code 104 = .ok (.iload_n 3, 1) := by decide +kernel
theorem zq_d3_105 : decode prog_78_method_4_code 105 = .ok (.if_icmp .ge 28, 3) := by decide +kernel
theorem zq_d3_108 : decode prog_78_method_4_code 108 = .ok (.lload 6, 2) := by decide +kernel
theorem zq_d3_110 : decode prog_78_method_4_code 110 = .ok (.aload_n 1, 1) := by decide +kernel
theorem zq_d3_111 : decode prog_78_method_4_code 111 = .ok (.iload 8, 2) := by decide +kernel
theorem zq_d3_113 : decode prog_78_method_4_code 113 = .ok (.caload, 1) := by decide +kernel
theorem zq_d3_114 : decode prog_78_method_4_code 114 = .ok (.i2l, 1) := by decide +kernel
theorem zq_d3_115 : decode prog_78_method_4_code 115 = .ok (.bipush 16, 2) := by decide +kernel
theorem zq_d3_117 : decode prog_78_method_4_code 117 = .ok (.iload 8, 2) := by decide +kernel
theorem zq_d3_119 : decode prog_78_method_4_code 119 = .ok (.iload 5, 2) := by decide +kernel
theorem zq_d3_121 : decode prog_78_method_4_code 121 = .ok (.isub, 1) := by decide +kernel
theorem zq_d3_122 : decode prog_78_method_4_code 122 = .ok (.imul, 1) := by decide +kernel
theorem zq_d3_123 : decode prog_78_method_4_code 123 = .ok (.lshl, 1) := by decide +kernel
theorem zq_d3_124 : decode prog_78_method_4_code 124 = .ok (.lor, 1) := by decide +kernel
theorem zq_d3_125 : decode prog_78_method_4_code 125 = .ok (.lstore 6, 2) := by decide +kernel
theorem zq_d3_127 : decode prog_78_method_4_code 127 = .ok (.iinc 8 1, 3) := by decide +kernel
theorem zq_d3_130 : decode prog_78_method_4_code 130 = .ok (.goto (-28), 3) := by decide +kernel
theorem zq_d3_133 : decode prog_78_method_4_code 133 = .ok (.aload 4, 2) := by decide +kernel
theorem zq_d3_135 : decode prog_78_method_4_code 135 = .ok (.lload 6, 2) := by decide +kernel
theorem zq_d3_137 : decode prog_78_method_4_code 137 = .ok (.invokevirtual 40, 3) := by decide +kernel
theorem zq_d3_140 : decode prog_78_method_4_code 140 = .ok (.ireturn, 1) := by decide +kernel
theorem zq_ef3 (m : MethodId) (x0 : Addr) (x1 : Addr) (x2 : Int32) (x3 : Int32) : entryFrame m #[(.ref x0), (.ref x1), (.int x2), (.int x3)] 9 = mkF m 0 #[.val (.ref x0), .val (.ref x1), .val (.int x2), .val (.int x3), .unset, .unset, .unset, .unset, .unset] [] := by first | (simp [entryFrame, mkF, argsToLocals, Value.category]; done) | rfl
set_option maxRecDepth 65536 in
set_option maxHeartbeats 40000000 in
theorem zq_rmO (l : Launch) (Z : State) (a0 : Array Value) (hw : ∀ d ∈ tables_1, d.before a0 Z = true) (ws : List Jvm.Cond) (a : Addr) (ar : Addr) (x2 : Int32) (x3 : Int32) (h0 : Heap) (n0 : Nat) (k0 k1 : Int64) (u : Nat → Int32) (f N : Nat) (F_key0_a : Fld Z h0 a "com/example/clearline/clearline/formats/TableHash" "key0" "J" (.long k0)) (F_key1_a : Fld Z h0 a "com/example/clearline/clearline/formats/TableHash" "key1" "J" (.long k1)) (A_ar : zq_A Z h0 ar .char 12 (fun k => .int (u k))) (hf : x2 = Nat.toInt32 f) (ht : x3 = Nat.toInt32 (f + N)) (hf3 : f ≤ 3) (hN : N ≤ 7) (ZS : n0 ≤ h0.size) :
    zq_Met l Z (⟨"com/example/clearline/clearline/formats/TableHash", "of", "([CII)I"⟩ : MethodName) prog_78_method_4_code 9 (some .int) ws ({ frames := 4, cells := 1, slots := 4, locals := 57 } : Room) #[(.ref a), (.ref ar), (.int x2), (.int x3)] h0 (fun r h L => r = some (.int (zq_of k0 k1 u f N)) ∧ Fr n0 L ∧ Keep h0 h []) := by
  refine zq_body (plainFor_of_name zq_pn6) ?_
  intro p e s m below meth c s₁ hx hZ hby hml hret hlk hown hnm X0 e0
  refine zq_go (fun _ kq => castTop (zq_ef3 m a ar x2 x3) kq) ?_
  subst hf ht
  have NF := Fr.nil n0
  have KP := Keep.refl h0 []
  show zq_Go p e below s _ _ _ (s₁.setTop (mkF m 0 #[.val (.ref a), .val (.ref ar), .val (.int (Nat.toInt32 f)), .val (.int (Nat.toInt32 (f + N))), .unset, .unset, .unset, .unset, .unset] []))
  obtain ⟨T1, h1, b1, gb1, X1, e1, E1, E_b1, D1, st1⟩ := zq_newO X0 hx hZ hown (hw _ (List.mem_of_getElem? (i := 19) rfl)) (hw _ (List.mem_of_getElem? (i := 20) rfl)) (hw _ (List.mem_of_getElem? (i := 21) rfl)) e0 (g := (mkF m 0 #[.val (.ref a), .val (.ref ar), .val (.int (Nat.toInt32 f)), .val (.int (Nat.toInt32 (f + N))), .unset, .unset, .unset, .unset, .unset] [])) rfl (hb hby zq_d3_0) (by decide) (by decide)
  have ne_a_b1 : a ≠ b1 := zq_ne F_key1_a.lt gb1
  have ne_b1_a : b1 ≠ a := zq_ne' F_key1_a.lt gb1
  have ne_ar_b1 : ar ≠ b1 := zq_ne A_ar.lt gb1
  have ne_b1_ar : b1 ≠ ar := zq_ne' A_ar.lt gb1
  have g_b1 : n0 ≤ b1 := by rw [gb1]; exact ZS
  have sz_b1 : h0.size ≤ b1 := by rw [gb1]; exact KP.1
  have F_key0_a := F_key0_a.ext E1
  have F_key1_a := F_key1_a.ext E1
  have A_ar := A_ar.ext E1
  have ZS := Nat.le_trans ZS E1.1
  have KP := KP.ext E1
  have X1 : Stand p l e ({ frames := 4, cells := 1, slots := 4, locals := 57 } : Room) s m #[(.ref a), (.ref ar), (.int (Nat.toInt32 f)), (.int (Nat.toInt32 (f + N)))] below meth c T1 [] 1 4 := X1
  have F_v0_b1 : Fld Z h1 b1 "com/example/clearline/clearline/formats/TableHash$Sip" "v0" "J" (.long (0 : Int64)) := D1 (Or.inl (hw _ (List.mem_of_getElem? (i := 28) rfl))) (ty := .long) (by decide)
  have F_v1_b1 : Fld Z h1 b1 "com/example/clearline/clearline/formats/TableHash$Sip" "v1" "J" (.long (0 : Int64)) := D1 (Or.inl (hw _ (List.mem_of_getElem? (i := 31) rfl))) (ty := .long) (by decide)
  have F_v2_b1 : Fld Z h1 b1 "com/example/clearline/clearline/formats/TableHash$Sip" "v2" "J" (.long (0 : Int64)) := D1 (Or.inl (hw _ (List.mem_of_getElem? (i := 34) rfl))) (ty := .long) (by decide)
  have F_v3_b1 : Fld Z h1 b1 "com/example/clearline/clearline/formats/TableHash$Sip" "v3" "J" (.long (0 : Int64)) := D1 (Or.inl (hw _ (List.mem_of_getElem? (i := 37) rfl))) (ty := .long) (by decide)
  refine zq_go st1 ?_
  show zq_Go p e below s _ _ _ (T1.setTop (mkF m 3 #[.val (.ref a), .val (.ref ar), .val (.int (Nat.toInt32 f)), .val (.int (Nat.toInt32 (f + N))), .unset, .unset, .unset, .unset, .unset] [(.ref b1)]))
  refine zq_go (fun _ kq => XS.dup X1.here hx rfl (hb hby zq_d3_3) rfl rfl kq) ?_
  show zq_Go p e below s _ _ _ (T1.setTop (mkF m 4 #[.val (.ref a), .val (.ref ar), .val (.int (Nat.toInt32 f)), .val (.int (Nat.toInt32 (f + N))), .unset, .unset, .unset, .unset, .unset] [(.ref b1), (.ref b1)]))
  refine zq_go (fun _ kq => XS.aloadN X1.here hx rfl (hb hby zq_d3_4) rfl rfl kq) ?_
  show zq_Go p e below s _ _ _ (T1.setTop (mkF m 5 #[.val (.ref a), .val (.ref ar), .val (.int (Nat.toInt32 f)), .val (.int (Nat.toInt32 (f + N))), .unset, .unset, .unset, .unset, .unset] [(.ref a), (.ref b1), (.ref b1)]))
  obtain ⟨T2, X2, e2, st2⟩ := getF X1 hx hZ hown (host := "") (Or.inl (hw _ (List.mem_of_getElem? (i := 10) rfl))) Via.refl e1 F_key0_a (g := (mkF m 5 #[.val (.ref a), .val (.ref ar), .val (.int (Nat.toInt32 f)), .val (.int (Nat.toInt32 (f + N))), .unset, .unset, .unset, .unset, .unset] [(.ref a), (.ref b1), (.ref b1)])) rfl rfl (hb hby zq_d3_5)
  refine zq_go st2 ?_
  show zq_Go p e below s _ _ _ (T2.setTop (mkF m 8 #[.val (.ref a), .val (.ref ar), .val (.int (Nat.toInt32 f)), .val (.int (Nat.toInt32 (f + N))), .unset, .unset, .unset, .unset, .unset] [(.long k0), (.ref b1), (.ref b1)]))
  refine zq_go (fun _ kq => XS.aloadN X2.here hx rfl (hb hby zq_d3_8) rfl rfl kq) ?_
  show zq_Go p e below s _ _ _ (T2.setTop (mkF m 9 #[.val (.ref a), .val (.ref ar), .val (.int (Nat.toInt32 f)), .val (.int (Nat.toInt32 (f + N))), .unset, .unset, .unset, .unset, .unset] [(.ref a), (.long k0), (.ref b1), (.ref b1)]))
  obtain ⟨T3, X3, e3, st3⟩ := getF X2 hx hZ hown (host := "") (Or.inl (hw _ (List.mem_of_getElem? (i := 12) rfl))) Via.refl e2 F_key1_a (g := (mkF m 9 #[.val (.ref a), .val (.ref ar), .val (.int (Nat.toInt32 f)), .val (.int (Nat.toInt32 (f + N))), .unset, .unset, .unset, .unset, .unset] [(.ref a), (.long k0), (.ref b1), (.ref b1)])) rfl rfl (hb hby zq_d3_9)
  refine zq_go st3 ?_
  show zq_Go p e below s _ _ _ (T3.setTop (mkF m 12 #[.val (.ref a), .val (.ref ar), .val (.int (Nat.toInt32 f)), .val (.int (Nat.toInt32 (f + N))), .unset, .unset, .unset, .unset, .unset] [(.long k1), (.long k0), (.ref b1), (.ref b1)]))
  obtain ⟨_, T4, L4, X4, ⟨rfl, Nq4, K4, G0_4, G1_4, G2_4, G3_4⟩, st4⟩ := zq_callC (W := 1) X3 hx hZ rfl hown (hw _ (List.mem_of_getElem? (i := 22) rfl)) (hw _ (List.mem_of_getElem? (i := 23) rfl)) (hw _ (List.mem_of_getElem? (i := 21) rfl)) (hw _ (List.mem_of_getElem? (i := 24) rfl)) (by decide) (zq_rmSI l Z a0 hw [] b1 k0 k1 h1 n0 _ _ _ _ E_b1 F_v0_b1 F_v1_b1 F_v2_b1 F_v3_b1 g_b1) e3 (by decide) (by decide) (by decide) (by decide) (g := (mkF m 12 #[.val (.ref a), .val (.ref ar), .val (.int (Nat.toInt32 f)), .val (.int (Nat.toInt32 (f + N))), .unset, .unset, .unset, .unset, .unset] [(.long k1), (.long k0), (.ref b1), (.ref b1)])) rfl (by rw [hml]; rfl) (a := b1) (argsL := [(.long k0), (.long k1)]) (rest := [(.ref b1)]) (lenOf zq_pd7 rfl) rfl (by show 2 * 0 + _ ≤ _; exact Nat.le_of_eq rfl) (hb hby zq_d3_12)
  have F_key0_a := F_key0_a.keep K4 (ninS ne_a_b1 nin0)
  have F_key1_a := F_key1_a.keep K4 (ninS ne_a_b1 nin0)
  have A_ar := A_ar.keep K4 (ninS ne_ar_b1 nin0)
  have E_b1 := E_b1.keep K4
  have ZS := Nat.le_trans ZS K4.1
  have KP := KP.trans K4 (allS (P := fun x => x ∈ [] ∨ h0.size ≤ x) (Or.inr sz_b1) (all0))
  have F_v0_b1 := G0_4
  have F_v1_b1 := G1_4
  have F_v2_b1 := G2_4
  have F_v3_b1 := G3_4
  obtain ⟨L4, X4, NF⟩ : ∃ L : List Loc, Stand p l e ({ frames := 4, cells := 1, slots := 4, locals := 57 } : Room) s m #[(.ref a), (.ref ar), (.int (Nat.toInt32 f)), (.int (Nat.toInt32 (f + N)))] below meth c T4 L 1 4 ∧ Fr n0 L := ⟨_, X4, Fr.app NF Nq4⟩
  refine zq_go st4 ?_
  show zq_Go p e below s _ _ _ (T4.setTop (mkF m 15 #[.val (.ref a), .val (.ref ar), .val (.int (Nat.toInt32 f)), .val (.int (Nat.toInt32 (f + N))), .unset, .unset, .unset, .unset, .unset] [(.ref b1)]))
  refine zq_go (fun _ kq => XS.astore X4.here hx rfl (hb hby zq_d3_15) rfl rfl (l' := #[.val (.ref a), .val (.ref ar), .val (.int (Nat.toInt32 f)), .val (.int (Nat.toInt32 (f + N))), .val (.ref b1), .unset, .unset, .unset, .unset]) rfl kq) ?_
  show zq_Go p e below s _ _ _ (T4.setTop (mkF m 17 #[.val (.ref a), .val (.ref ar), .val (.int (Nat.toInt32 f)), .val (.int (Nat.toInt32 (f + N))), .val (.ref b1), .unset, .unset, .unset, .unset] []))
  refine zq_go (fun _ kq => XS.iloadN X4.here hx rfl (hb hby zq_d3_17) rfl kq) ?_
  show zq_Go p e below s _ _ _ (T4.setTop (mkF m 18 #[.val (.ref a), .val (.ref ar), .val (.int (Nat.toInt32 f)), .val (.int (Nat.toInt32 (f + N))), .val (.ref b1), .unset, .unset, .unset, .unset] [(.int (Nat.toInt32 f))]))
  refine zq_go (fun _ kq => XS.iloadN X4.here hx rfl (hb hby zq_d3_18) rfl kq) ?_
  show zq_Go p e below s _ _ _ (T4.setTop (mkF m 19 #[.val (.ref a), .val (.ref ar), .val (.int (Nat.toInt32 f)), .val (.int (Nat.toInt32 (f + N))), .val (.ref b1), .unset, .unset, .unset, .unset] [(.int (Nat.toInt32 (f + N))), (.int (Nat.toInt32 f))]))
  refine zq_go (fun _ kq => XS.iloadN X4.here hx rfl (hb hby zq_d3_19) rfl kq) ?_
  show zq_Go p e below s _ _ _ (T4.setTop (mkF m 20 #[.val (.ref a), .val (.ref ar), .val (.int (Nat.toInt32 f)), .val (.int (Nat.toInt32 (f + N))), .val (.ref b1), .unset, .unset, .unset, .unset] [(.int (Nat.toInt32 f)), (.int (Nat.toInt32 (f + N))), (.int (Nat.toInt32 f))]))
  refine zq_go (fun _ kq => XS.isub X4.here hx rfl (hb hby zq_d3_20) rfl kq) ?_
  show zq_Go p e below s _ _ _ (T4.setTop (mkF m 21 #[.val (.ref a), .val (.ref ar), .val (.int (Nat.toInt32 f)), .val (.int (Nat.toInt32 (f + N))), .val (.ref b1), .unset, .unset, .unset, .unset] [(.int ((Nat.toInt32 (f + N)) - (Nat.toInt32 f))), (.int (Nat.toInt32 f))]))
  rw [zq_dif (by omega)]
  show zq_Go p e below s _ _ _ (T4.setTop (mkF m 21 #[.val (.ref a), .val (.ref ar), .val (.int (Nat.toInt32 f)), .val (.int (Nat.toInt32 (f + N))), .val (.ref b1), .unset, .unset, .unset, .unset] [(.int (Nat.toInt32 N)), (.int (Nat.toInt32 f))]))
  refine zq_go (fun _ kq => XS.iconst X4.here hx rfl (hb hby zq_d3_21) kq) ?_
  show zq_Go p e below s _ _ _ (T4.setTop (mkF m 22 #[.val (.ref a), .val (.ref ar), .val (.int (Nat.toInt32 f)), .val (.int (Nat.toInt32 (f + N))), .val (.ref b1), .unset, .unset, .unset, .unset] [(.int (4 : Int32)), (.int (Nat.toInt32 N)), (.int (Nat.toInt32 f))]))
  refine zq_go (fun _ kq => XS.idiv X4.here hx rfl (hb hby zq_d3_22) rfl (by decide) kq) ?_
  show zq_Go p e below s _ _ _ (T4.setTop (mkF m 23 #[.val (.ref a), .val (.ref ar), .val (.int (Nat.toInt32 f)), .val (.int (Nat.toInt32 (f + N))), .val (.ref b1), .unset, .unset, .unset, .unset] [(.int ((Nat.toInt32 N) / (4 : Int32))), (.int (Nat.toInt32 f))]))
  refine zq_go (fun _ kq => XS.iconst X4.here hx rfl (hb hby zq_d3_23) kq) ?_
  show zq_Go p e below s _ _ _ (T4.setTop (mkF m 24 #[.val (.ref a), .val (.ref ar), .val (.int (Nat.toInt32 f)), .val (.int (Nat.toInt32 (f + N))), .val (.ref b1), .unset, .unset, .unset, .unset] [(.int (4 : Int32)), (.int ((Nat.toInt32 N) / (4 : Int32))), (.int (Nat.toInt32 f))]))
  refine zq_go (fun _ kq => XS.imul X4.here hx rfl (hb hby zq_d3_24) rfl kq) ?_
  show zq_Go p e below s _ _ _ (T4.setTop (mkF m 25 #[.val (.ref a), .val (.ref ar), .val (.int (Nat.toInt32 f)), .val (.int (Nat.toInt32 (f + N))), .val (.ref b1), .unset, .unset, .unset, .unset] [(.int (((Nat.toInt32 N) / (4 : Int32)) * (4 : Int32))), (.int (Nat.toInt32 f))]))
  refine zq_go (fun _ kq => XS.iadd X4.here hx rfl (hb hby zq_d3_25) rfl kq) ?_
  show zq_Go p e below s _ _ _ (T4.setTop (mkF m 26 #[.val (.ref a), .val (.ref ar), .val (.int (Nat.toInt32 f)), .val (.int (Nat.toInt32 (f + N))), .val (.ref b1), .unset, .unset, .unset, .unset] [(.int ((Nat.toInt32 f) + (((Nat.toInt32 N) / (4 : Int32)) * (4 : Int32))))]))
  rw [zq_lim hf3 hN]
  show zq_Go p e below s _ _ _ (T4.setTop (mkF m 26 #[.val (.ref a), .val (.ref ar), .val (.int (Nat.toInt32 f)), .val (.int (Nat.toInt32 (f + N))), .val (.ref b1), .unset, .unset, .unset, .unset] [(.int (Nat.toInt32 (f + N / 4 * 4)))]))
  refine zq_go (fun _ kq => XS.istore X4.here hx rfl (hb hby zq_d3_26) rfl (l' := #[.val (.ref a), .val (.ref ar), .val (.int (Nat.toInt32 f)), .val (.int (Nat.toInt32 (f + N))), .val (.ref b1), .val (.int (Nat.toInt32 (f + N / 4 * 4))), .unset, .unset, .unset]) rfl kq) ?_
  show zq_Go p e below s _ _ _ (T4.setTop (mkF m 28 #[.val (.ref a), .val (.ref ar), .val (.int (Nat.toInt32 f)), .val (.int (Nat.toInt32 (f + N))), .val (.ref b1), .val (.int (Nat.toInt32 (f + N / 4 * 4))), .unset, .unset, .unset] []))
  refine zq_go (fun _ kq => XS.iloadN X4.here hx rfl (hb hby zq_d3_28) rfl kq) ?_
  show zq_Go p e below s _ _ _ (T4.setTop (mkF m 29 #[.val (.ref a), .val (.ref ar), .val (.int (Nat.toInt32 f)), .val (.int (Nat.toInt32 (f + N))), .val (.ref b1), .val (.int (Nat.toInt32 (f + N / 4 * 4))), .unset, .unset, .unset] [(.int (Nat.toInt32 f))]))
  refine zq_go (fun _ kq => XS.istore X4.here hx rfl (hb hby zq_d3_29) rfl (l' := #[.val (.ref a), .val (.ref ar), .val (.int (Nat.toInt32 f)), .val (.int (Nat.toInt32 (f + N))), .val (.ref b1), .val (.int (Nat.toInt32 (f + N / 4 * 4))), .val (.int (Nat.toInt32 f)), .unset, .unset]) rfl kq) ?_
  show zq_Go p e below s _ _ _ (T4.setTop (mkF m 31 #[.val (.ref a), .val (.ref ar), .val (.int (Nat.toInt32 f)), .val (.int (Nat.toInt32 (f + N))), .val (.ref b1), .val (.int (Nat.toInt32 (f + N / 4 * 4))), .val (.int (Nat.toInt32 f)), .unset, .unset] []))
  have J87 : ∀ (v : zq_V) (i6 : Int32) (T9 : State) (h9 : Heap) (L9 : List Loc), Stand p l e ({ frames := 4, cells := 1, slots := 4, locals := 57 } : Room) s m #[(.ref a), (.ref ar), (.int (Nat.toInt32 f)), (.int (Nat.toInt32 (f + N)))] below meth c T9 L9 1 4 → T9.heap = h9 → Fr n0 L9 → n0 ≤ h9.size → Keep h0 h9 [] → Exa Z h9 b1 "com/example/clearline/clearline/formats/TableHash$Sip" → Fld Z h9 b1 "com/example/clearline/clearline/formats/TableHash$Sip" "v0" "J" (.long v.1) → Fld Z h9 b1 "com/example/clearline/clearline/formats/TableHash$Sip" "v1" "J" (.long v.2.1) → Fld Z h9 b1 "com/example/clearline/clearline/formats/TableHash$Sip" "v2" "J" (.long v.2.2.1) → Fld Z h9 b1 "com/example/clearline/clearline/formats/TableHash$Sip" "v3" "J" (.long v.2.2.2) → zq_A Z h9 ar .char 12 (fun k => .int (u k)) → v = zq_ov k0 k1 u f N → zq_Go p e below s (fun r h L => r = some (.int (zq_of k0 k1 u f N)) ∧ Fr n0 L ∧ Keep h0 h []) ({ frames := 4, cells := 1, slots := 4, locals := 57 } : Room).cells ({ frames := 4, cells := 1, slots := 4, locals := 57 } : Room).slots (T9.setTop (mkF m 87 #[.val (.ref a), .val (.ref ar), .val (.int (Nat.toInt32 f)), .val (.int (Nat.toInt32 (f + N))), .val (.ref b1), .val (.int (Nat.toInt32 (f + N / 4 * 4))), .val (.int i6), .unset, .unset] [])) := by
    intro v i6 T9 h9 L9 X9 e9 NF ZS KP E_b1 F_v0_b1 F_v1_b1 F_v2_b1 F_v3_b1 A_ar hv
    show zq_Go p e below s _ _ _ (T9.setTop (mkF m 87 #[.val (.ref a), .val (.ref ar), .val (.int (Nat.toInt32 f)), .val (.int (Nat.toInt32 (f + N))), .val (.ref b1), .val (.int (Nat.toInt32 (f + N / 4 * 4))), .val (.int i6), .unset, .unset] []))
    refine zq_go (fun _ kq => XS.iconst X9.here hx rfl (hb hby zq_d3_87) kq) ?_
    show zq_Go p e below s _ _ _ (T9.setTop (mkF m 88 #[.val (.ref a), .val (.ref ar), .val (.int (Nat.toInt32 f)), .val (.int (Nat.toInt32 (f + N))), .val (.ref b1), .val (.int (Nat.toInt32 (f + N / 4 * 4))), .val (.int i6), .unset, .unset] [(.int (2 : Int32))]))
    refine zq_go (fun _ kq => XS.iloadN X9.here hx rfl (hb hby zq_d3_88) rfl kq) ?_
    show zq_Go p e below s _ _ _ (T9.setTop (mkF m 89 #[.val (.ref a), .val (.ref ar), .val (.int (Nat.toInt32 f)), .val (.int (Nat.toInt32 (f + N))), .val (.ref b1), .val (.int (Nat.toInt32 (f + N / 4 * 4))), .val (.int i6), .unset, .unset] [(.int (Nat.toInt32 (f + N))), (.int (2 : Int32))]))
    refine zq_go (fun _ kq => XS.iloadN X9.here hx rfl (hb hby zq_d3_89) rfl kq) ?_
    show zq_Go p e below s _ _ _ (T9.setTop (mkF m 90 #[.val (.ref a), .val (.ref ar), .val (.int (Nat.toInt32 f)), .val (.int (Nat.toInt32 (f + N))), .val (.ref b1), .val (.int (Nat.toInt32 (f + N / 4 * 4))), .val (.int i6), .unset, .unset] [(.int (Nat.toInt32 f)), (.int (Nat.toInt32 (f + N))), (.int (2 : Int32))]))
    refine zq_go (fun _ kq => XS.isub X9.here hx rfl (hb hby zq_d3_90) rfl kq) ?_
    show zq_Go p e below s _ _ _ (T9.setTop (mkF m 91 #[.val (.ref a), .val (.ref ar), .val (.int (Nat.toInt32 f)), .val (.int (Nat.toInt32 (f + N))), .val (.ref b1), .val (.int (Nat.toInt32 (f + N / 4 * 4))), .val (.int i6), .unset, .unset] [(.int ((Nat.toInt32 (f + N)) - (Nat.toInt32 f))), (.int (2 : Int32))]))
    rw [zq_dif (by omega)]
    show zq_Go p e below s _ _ _ (T9.setTop (mkF m 91 #[.val (.ref a), .val (.ref ar), .val (.int (Nat.toInt32 f)), .val (.int (Nat.toInt32 (f + N))), .val (.ref b1), .val (.int (Nat.toInt32 (f + N / 4 * 4))), .val (.int i6), .unset, .unset] [(.int (Nat.toInt32 N)), (.int (2 : Int32))]))
    refine zq_go (fun _ kq => XS.imul X9.here hx rfl (hb hby zq_d3_91) rfl kq) ?_
    show zq_Go p e below s _ _ _ (T9.setTop (mkF m 92 #[.val (.ref a), .val (.ref ar), .val (.int (Nat.toInt32 f)), .val (.int (Nat.toInt32 (f + N))), .val (.ref b1), .val (.int (Nat.toInt32 (f + N / 4 * 4))), .val (.int i6), .unset, .unset] [(.int ((2 : Int32) * (Nat.toInt32 N)))]))
    refine zq_go (fun _ kq => XS.i2l X9.here hx rfl (hb hby zq_d3_92) rfl kq) ?_
    show zq_Go p e below s _ _ _ (T9.setTop (mkF m 93 #[.val (.ref a), .val (.ref ar), .val (.int (Nat.toInt32 f)), .val (.int (Nat.toInt32 (f + N))), .val (.ref b1), .val (.int (Nat.toInt32 (f + N / 4 * 4))), .val (.int i6), .unset, .unset] [(.long (((2 : Int32) * (Nat.toInt32 N)).toInt64))]))
    refine zq_go (fun _ kq => XS.bipush X9.here hx rfl (hb hby zq_d3_93) kq) ?_
    show zq_Go p e below s _ _ _ (T9.setTop (mkF m 95 #[.val (.ref a), .val (.ref ar), .val (.int (Nat.toInt32 f)), .val (.int (Nat.toInt32 (f + N))), .val (.ref b1), .val (.int (Nat.toInt32 (f + N / 4 * 4))), .val (.int i6), .unset, .unset] [(.int (56 : Int32)), (.long (((2 : Int32) * (Nat.toInt32 N)).toInt64))]))
    refine zq_go (fun _ kq => XS.lshl X9.here hx rfl (hb hby zq_d3_95) rfl kq) ?_
    show zq_Go p e below s _ _ _ (T9.setTop (mkF m 96 #[.val (.ref a), .val (.ref ar), .val (.int (Nat.toInt32 f)), .val (.int (Nat.toInt32 (f + N))), .val (.ref b1), .val (.int (Nat.toInt32 (f + N / 4 * 4))), .val (.int i6), .unset, .unset] [(.long ((((2 : Int32) * (Nat.toInt32 N)).toInt64) <<< ((56 : Int32) &&& 0x3f).toInt64))]))
    refine zq_go (fun _ kq => XS.lstore X9.here hx rfl (hb hby zq_d3_96) rfl (l' := #[.val (.ref a), .val (.ref ar), .val (.int (Nat.toInt32 f)), .val (.int (Nat.toInt32 (f + N))), .val (.ref b1), .val (.int (Nat.toInt32 (f + N / 4 * 4))), .val (.long ((((2 : Int32) * (Nat.toInt32 N)).toInt64) <<< ((56 : Int32) &&& 0x3f).toInt64)), .second, .unset]) rfl kq) ?_
    show zq_Go p e below s _ _ _ (T9.setTop (mkF m 98 #[.val (.ref a), .val (.ref ar), .val (.int (Nat.toInt32 f)), .val (.int (Nat.toInt32 (f + N))), .val (.ref b1), .val (.int (Nat.toInt32 (f + N / 4 * 4))), .val (.long ((((2 : Int32) * (Nat.toInt32 N)).toInt64) <<< ((56 : Int32) &&& 0x3f).toInt64)), .second, .unset] []))
    refine zq_go (fun _ kq => XS.iload X9.here hx rfl (hb hby zq_d3_98) rfl kq) ?_
    show zq_Go p e below s _ _ _ (T9.setTop (mkF m 100 #[.val (.ref a), .val (.ref ar), .val (.int (Nat.toInt32 f)), .val (.int (Nat.toInt32 (f + N))), .val (.ref b1), .val (.int (Nat.toInt32 (f + N / 4 * 4))), .val (.long ((((2 : Int32) * (Nat.toInt32 N)).toInt64) <<< ((56 : Int32) &&& 0x3f).toInt64)), .second, .unset] [(.int (Nat.toInt32 (f + N / 4 * 4)))]))
    refine zq_go (fun _ kq => XS.istore X9.here hx rfl (hb hby zq_d3_100) rfl (l' := #[.val (.ref a), .val (.ref ar), .val (.int (Nat.toInt32 f)), .val (.int (Nat.toInt32 (f + N))), .val (.ref b1), .val (.int (Nat.toInt32 (f + N / 4 * 4))), .val (.long ((((2 : Int32) * (Nat.toInt32 N)).toInt64) <<< ((56 : Int32) &&& 0x3f).toInt64)), .second, .val (.int (Nat.toInt32 (f + N / 4 * 4)))]) rfl kq) ?_
    show zq_Go p e below s _ _ _ (T9.setTop (mkF m 102 #[.val (.ref a), .val (.ref ar), .val (.int (Nat.toInt32 f)), .val (.int (Nat.toInt32 (f + N))), .val (.ref b1), .val (.int (Nat.toInt32 (f + N / 4 * 4))), .val (.long ((((2 : Int32) * (Nat.toInt32 N)).toInt64) <<< ((56 : Int32) &&& 0x3f).toInt64)), .second, .val (.int (Nat.toInt32 (f + N / 4 * 4)))] []))
    have hr3 : N - N / 4 * 4 ≤ 3 := by omega
    have loop : ∀ (k j : Nat) (acc : Int64), j + k = N - N / 4 * 4 → zq_tl u (f + N / 4 * 4) k j acc = zq_tl u (f + N / 4 * 4) (N - N / 4 * 4) 0 (zq_M (Nat.toInt32 N)) → zq_Go p e below s (fun r h L => r = some (.int (zq_of k0 k1 u f N)) ∧ Fr n0 L ∧ Keep h0 h []) ({ frames := 4, cells := 1, slots := 4, locals := 57 } : Room).cells ({ frames := 4, cells := 1, slots := 4, locals := 57 } : Room).slots (T9.setTop (mkF m 102 #[.val (.ref a), .val (.ref ar), .val (.int (Nat.toInt32 f)), .val (.int (Nat.toInt32 (f + N))), .val (.ref b1), .val (.int (Nat.toInt32 (f + N / 4 * 4))), .val (.long acc), .second, .val (.int (Nat.toInt32 ((f + N / 4 * 4) + j)))] [])) := by
      intro k
      induction k with
      | zero =>
        intro j acc jk je
        show zq_Go p e below s _ _ _ (T9.setTop (mkF m 102 #[.val (.ref a), .val (.ref ar), .val (.int (Nat.toInt32 f)), .val (.int (Nat.toInt32 (f + N))), .val (.ref b1), .val (.int (Nat.toInt32 (f + N / 4 * 4))), .val (.long acc), .second, .val (.int (Nat.toInt32 ((f + N / 4 * 4) + j)))] []))
        refine zq_go (fun _ kq => XS.iload X9.here hx rfl (hb hby zq_d3_102) rfl kq) ?_
        show zq_Go p e below s _ _ _ (T9.setTop (mkF m 104 #[.val (.ref a), .val (.ref ar), .val (.int (Nat.toInt32 f)), .val (.int (Nat.toInt32 (f + N))), .val (.ref b1), .val (.int (Nat.toInt32 (f + N / 4 * 4))), .val (.long acc), .second, .val (.int (Nat.toInt32 ((f + N / 4 * 4) + j)))] [(.int (Nat.toInt32 ((f + N / 4 * 4) + j)))]))
        refine zq_go (fun _ kq => XS.iloadN X9.here hx rfl (hb hby zq_d3_104) rfl kq) ?_
        show zq_Go p e below s _ _ _ (T9.setTop (mkF m 105 #[.val (.ref a), .val (.ref ar), .val (.int (Nat.toInt32 f)), .val (.int (Nat.toInt32 (f + N))), .val (.ref b1), .val (.int (Nat.toInt32 (f + N / 4 * 4))), .val (.long acc), .second, .val (.int (Nat.toInt32 ((f + N / 4 * 4) + j)))] [(.int (Nat.toInt32 (f + N))), (.int (Nat.toInt32 ((f + N / 4 * 4) + j)))]))
        refine zq_go (fun _ kq => XS.icmpYes X9.here hx rfl (pc0 := 105) (pc' := 133) rfl (hb hby zq_d3_105) rfl (flt (fun q => absurd ((zq_lt (by omega) (by omega)).mp q) (by omega) : ¬ ((Nat.toInt32 ((f + N / 4 * 4) + j)) < (Nat.toInt32 (f + N))))).2.1 (by decide) (by decide) kq) ?_
        show zq_Go p e below s _ _ _ (T9.setTop (mkF m 133 #[.val (.ref a), .val (.ref ar), .val (.int (Nat.toInt32 f)), .val (.int (Nat.toInt32 (f + N))), .val (.ref b1), .val (.int (Nat.toInt32 (f + N / 4 * 4))), .val (.long acc), .second, .val (.int (Nat.toInt32 ((f + N / 4 * 4) + j)))] []))
        refine zq_go (fun _ kq => XS.aload X9.here hx rfl (hb hby zq_d3_133) rfl rfl kq) ?_
        show zq_Go p e below s _ _ _ (T9.setTop (mkF m 135 #[.val (.ref a), .val (.ref ar), .val (.int (Nat.toInt32 f)), .val (.int (Nat.toInt32 (f + N))), .val (.ref b1), .val (.int (Nat.toInt32 (f + N / 4 * 4))), .val (.long acc), .second, .val (.int (Nat.toInt32 ((f + N / 4 * 4) + j)))] [(.ref b1)]))
        refine zq_go (fun _ kq => XS.lload X9.here hx rfl (hb hby zq_d3_135) rfl kq) ?_
        show zq_Go p e below s _ _ _ (T9.setTop (mkF m 137 #[.val (.ref a), .val (.ref ar), .val (.int (Nat.toInt32 f)), .val (.int (Nat.toInt32 (f + N))), .val (.ref b1), .val (.int (Nat.toInt32 (f + N / 4 * 4))), .val (.long acc), .second, .val (.int (Nat.toInt32 ((f + N / 4 * 4) + j)))] [(.long acc), (.ref b1)]))
        obtain ⟨_, T5, L5, X5, ⟨rfl, Nq5, K5⟩, st5⟩ := zq_callV (W := 0) X9 hx hZ hown (hw _ (List.mem_of_getElem? (i := 38) rfl)) (hw _ (List.mem_of_getElem? (i := 39) rfl)) (hw _ (List.mem_of_getElem? (i := 41) rfl)) (hw _ (List.mem_of_getElem? (i := 40) rfl)) (hw _ (List.mem_of_getElem? (i := 21) rfl)) (hw _ (List.mem_of_getElem? (i := 42) rfl)) (by decide) (zq_rmSE l Z a0 hw [] b1 acc h9 n0 (v.1, v.2.1, v.2.2.1, v.2.2.2) E_b1 F_v0_b1 F_v1_b1 F_v2_b1 F_v3_b1 g_b1) e9 E_b1 (by decide) (by decide) (by decide) (by decide) (g := (mkF m 137 #[.val (.ref a), .val (.ref ar), .val (.int (Nat.toInt32 f)), .val (.int (Nat.toInt32 (f + N))), .val (.ref b1), .val (.int (Nat.toInt32 (f + N / 4 * 4))), .val (.long acc), .second, .val (.int (Nat.toInt32 ((f + N / 4 * 4) + j)))] [(.long acc), (.ref b1)])) rfl (by rw [hml]; rfl) (a := b1) (argsL := [(.long acc)]) (rest := []) (lenOf zq_pd8 rfl) rfl (by show 2 * 0 + _ ≤ _; exact Nat.le_of_eq rfl) (hb hby zq_d3_137)
        have ZS := Nat.le_trans ZS K5.1
        have KP := KP.trans K5 (allS (P := fun x => x ∈ [] ∨ h0.size ≤ x) (Or.inr sz_b1) (all0))
        obtain ⟨L5, X5, NF⟩ : ∃ L : List Loc, Stand p l e ({ frames := 4, cells := 1, slots := 4, locals := 57 } : Room) s m #[(.ref a), (.ref ar), (.int (Nat.toInt32 f)), (.int (Nat.toInt32 (f + N)))] below meth c T5 L 1 4 ∧ Fr n0 L := ⟨_, X5, Fr.app NF Nq5⟩
        refine zq_go st5 ?_
        show zq_Go p e below s _ _ _ (T5.setTop (mkF m 140 #[.val (.ref a), .val (.ref ar), .val (.int (Nat.toInt32 f)), .val (.int (Nat.toInt32 (f + N))), .val (.ref b1), .val (.int (Nat.toInt32 (f + N / 4 * 4))), .val (.long acc), .second, .val (.int (Nat.toInt32 ((f + N / 4 * 4) + j)))] [(.int (zq_en zq_rd (v.1, v.2.1, v.2.2.1, v.2.2.2) acc))]))
        exact zq_retI X5 hx hlk hret (hb hby zq_d3_140) ⟨congrArg (fun z => some (Value.int z)) (by show zq_en zq_rd v acc = _; unfold zq_of; rw [hv, ← je]; rfl), NF, KP⟩ (by decide) (by decide)
      | succ k ih =>
        intro j acc jk je
        show zq_Go p e below s _ _ _ (T9.setTop (mkF m 102 #[.val (.ref a), .val (.ref ar), .val (.int (Nat.toInt32 f)), .val (.int (Nat.toInt32 (f + N))), .val (.ref b1), .val (.int (Nat.toInt32 (f + N / 4 * 4))), .val (.long acc), .second, .val (.int (Nat.toInt32 ((f + N / 4 * 4) + j)))] []))
        refine zq_go (fun _ kq => XS.iload X9.here hx rfl (hb hby zq_d3_102) rfl kq) ?_
        show zq_Go p e below s _ _ _ (T9.setTop (mkF m 104 #[.val (.ref a), .val (.ref ar), .val (.int (Nat.toInt32 f)), .val (.int (Nat.toInt32 (f + N))), .val (.ref b1), .val (.int (Nat.toInt32 (f + N / 4 * 4))), .val (.long acc), .second, .val (.int (Nat.toInt32 ((f + N / 4 * 4) + j)))] [(.int (Nat.toInt32 ((f + N / 4 * 4) + j)))]))
        refine zq_go (fun _ kq => XS.iloadN X9.here hx rfl (hb hby zq_d3_104) rfl kq) ?_
        show zq_Go p e below s _ _ _ (T9.setTop (mkF m 105 #[.val (.ref a), .val (.ref ar), .val (.int (Nat.toInt32 f)), .val (.int (Nat.toInt32 (f + N))), .val (.ref b1), .val (.int (Nat.toInt32 (f + N / 4 * 4))), .val (.long acc), .second, .val (.int (Nat.toInt32 ((f + N / 4 * 4) + j)))] [(.int (Nat.toInt32 (f + N))), (.int (Nat.toInt32 ((f + N / 4 * 4) + j)))]))
        refine zq_go (fun _ kq => XS.icmpNo X9.here hx rfl (hb hby zq_d3_105) rfl (tlt ((zq_lt (by omega) (by omega)).mpr (by omega) : (Nat.toInt32 ((f + N / 4 * 4) + j)) < (Nat.toInt32 (f + N)))).2.1 kq) ?_
        show zq_Go p e below s _ _ _ (T9.setTop (mkF m 108 #[.val (.ref a), .val (.ref ar), .val (.int (Nat.toInt32 f)), .val (.int (Nat.toInt32 (f + N))), .val (.ref b1), .val (.int (Nat.toInt32 (f + N / 4 * 4))), .val (.long acc), .second, .val (.int (Nat.toInt32 ((f + N / 4 * 4) + j)))] []))
        refine zq_go (fun _ kq => XS.lload X9.here hx rfl (hb hby zq_d3_108) rfl kq) ?_
        show zq_Go p e below s _ _ _ (T9.setTop (mkF m 110 #[.val (.ref a), .val (.ref ar), .val (.int (Nat.toInt32 f)), .val (.int (Nat.toInt32 (f + N))), .val (.ref b1), .val (.int (Nat.toInt32 (f + N / 4 * 4))), .val (.long acc), .second, .val (.int (Nat.toInt32 ((f + N / 4 * 4) + j)))] [(.long acc)]))
        refine zq_go (fun _ kq => XS.aloadN X9.here hx rfl (hb hby zq_d3_110) rfl rfl kq) ?_
        show zq_Go p e below s _ _ _ (T9.setTop (mkF m 111 #[.val (.ref a), .val (.ref ar), .val (.int (Nat.toInt32 f)), .val (.int (Nat.toInt32 (f + N))), .val (.ref b1), .val (.int (Nat.toInt32 (f + N / 4 * 4))), .val (.long acc), .second, .val (.int (Nat.toInt32 ((f + N / 4 * 4) + j)))] [(.ref ar), (.long acc)]))
        refine zq_go (fun _ kq => XS.iload X9.here hx rfl (hb hby zq_d3_111) rfl kq) ?_
        show zq_Go p e below s _ _ _ (T9.setTop (mkF m 113 #[.val (.ref a), .val (.ref ar), .val (.int (Nat.toInt32 f)), .val (.int (Nat.toInt32 (f + N))), .val (.ref b1), .val (.int (Nat.toInt32 (f + N / 4 * 4))), .val (.long acc), .second, .val (.int (Nat.toInt32 ((f + N / 4 * 4) + j)))] [(.int (Nat.toInt32 ((f + N / 4 * 4) + j))), (.ref ar), (.long acc)]))
        refine zq_go (zq_ldC X9 hx hZ e9 A_ar (j := (Nat.toInt32 ((f + N / 4 * 4) + j))) (i := ((f + N / 4 * 4) + j)) (zq_cl (by omega)) (zq_nn (by omega)) (by omega) (g := (mkF m 113 #[.val (.ref a), .val (.ref ar), .val (.int (Nat.toInt32 f)), .val (.int (Nat.toInt32 (f + N))), .val (.ref b1), .val (.int (Nat.toInt32 (f + N / 4 * 4))), .val (.long acc), .second, .val (.int (Nat.toInt32 ((f + N / 4 * 4) + j)))] [(.int (Nat.toInt32 ((f + N / 4 * 4) + j))), (.ref ar), (.long acc)])) rfl rfl (hb hby zq_d3_113)) ?_
        show zq_Go p e below s _ _ _ (T9.setTop (mkF m 114 #[.val (.ref a), .val (.ref ar), .val (.int (Nat.toInt32 f)), .val (.int (Nat.toInt32 (f + N))), .val (.ref b1), .val (.int (Nat.toInt32 (f + N / 4 * 4))), .val (.long acc), .second, .val (.int (Nat.toInt32 ((f + N / 4 * 4) + j)))] [(.int (u ((f + N / 4 * 4) + j))), (.long acc)]))
        refine zq_go (fun _ kq => XS.i2l X9.here hx rfl (hb hby zq_d3_114) rfl kq) ?_
        show zq_Go p e below s _ _ _ (T9.setTop (mkF m 115 #[.val (.ref a), .val (.ref ar), .val (.int (Nat.toInt32 f)), .val (.int (Nat.toInt32 (f + N))), .val (.ref b1), .val (.int (Nat.toInt32 (f + N / 4 * 4))), .val (.long acc), .second, .val (.int (Nat.toInt32 ((f + N / 4 * 4) + j)))] [(.long ((u ((f + N / 4 * 4) + j)).toInt64)), (.long acc)]))
        refine zq_go (fun _ kq => XS.bipush X9.here hx rfl (hb hby zq_d3_115) kq) ?_
        show zq_Go p e below s _ _ _ (T9.setTop (mkF m 117 #[.val (.ref a), .val (.ref ar), .val (.int (Nat.toInt32 f)), .val (.int (Nat.toInt32 (f + N))), .val (.ref b1), .val (.int (Nat.toInt32 (f + N / 4 * 4))), .val (.long acc), .second, .val (.int (Nat.toInt32 ((f + N / 4 * 4) + j)))] [(.int (16 : Int32)), (.long ((u ((f + N / 4 * 4) + j)).toInt64)), (.long acc)]))
        refine zq_go (fun _ kq => XS.iload X9.here hx rfl (hb hby zq_d3_117) rfl kq) ?_
        show zq_Go p e below s _ _ _ (T9.setTop (mkF m 119 #[.val (.ref a), .val (.ref ar), .val (.int (Nat.toInt32 f)), .val (.int (Nat.toInt32 (f + N))), .val (.ref b1), .val (.int (Nat.toInt32 (f + N / 4 * 4))), .val (.long acc), .second, .val (.int (Nat.toInt32 ((f + N / 4 * 4) + j)))] [(.int (Nat.toInt32 ((f + N / 4 * 4) + j))), (.int (16 : Int32)), (.long ((u ((f + N / 4 * 4) + j)).toInt64)), (.long acc)]))
        refine zq_go (fun _ kq => XS.iload X9.here hx rfl (hb hby zq_d3_119) rfl kq) ?_
        show zq_Go p e below s _ _ _ (T9.setTop (mkF m 121 #[.val (.ref a), .val (.ref ar), .val (.int (Nat.toInt32 f)), .val (.int (Nat.toInt32 (f + N))), .val (.ref b1), .val (.int (Nat.toInt32 (f + N / 4 * 4))), .val (.long acc), .second, .val (.int (Nat.toInt32 ((f + N / 4 * 4) + j)))] [(.int (Nat.toInt32 (f + N / 4 * 4))), (.int (Nat.toInt32 ((f + N / 4 * 4) + j))), (.int (16 : Int32)), (.long ((u ((f + N / 4 * 4) + j)).toInt64)), (.long acc)]))
        refine zq_go (fun _ kq => XS.isub X9.here hx rfl (hb hby zq_d3_121) rfl kq) ?_
        show zq_Go p e below s _ _ _ (T9.setTop (mkF m 122 #[.val (.ref a), .val (.ref ar), .val (.int (Nat.toInt32 f)), .val (.int (Nat.toInt32 (f + N))), .val (.ref b1), .val (.int (Nat.toInt32 (f + N / 4 * 4))), .val (.long acc), .second, .val (.int (Nat.toInt32 ((f + N / 4 * 4) + j)))] [(.int ((Nat.toInt32 ((f + N / 4 * 4) + j)) - (Nat.toInt32 (f + N / 4 * 4)))), (.int (16 : Int32)), (.long ((u ((f + N / 4 * 4) + j)).toInt64)), (.long acc)]))
        rw [zq_dif (by omega)]
        show zq_Go p e below s _ _ _ (T9.setTop (mkF m 122 #[.val (.ref a), .val (.ref ar), .val (.int (Nat.toInt32 f)), .val (.int (Nat.toInt32 (f + N))), .val (.ref b1), .val (.int (Nat.toInt32 (f + N / 4 * 4))), .val (.long acc), .second, .val (.int (Nat.toInt32 ((f + N / 4 * 4) + j)))] [(.int (Nat.toInt32 j)), (.int (16 : Int32)), (.long ((u ((f + N / 4 * 4) + j)).toInt64)), (.long acc)]))
        refine zq_go (fun _ kq => XS.imul X9.here hx rfl (hb hby zq_d3_122) rfl kq) ?_
        show zq_Go p e below s _ _ _ (T9.setTop (mkF m 123 #[.val (.ref a), .val (.ref ar), .val (.int (Nat.toInt32 f)), .val (.int (Nat.toInt32 (f + N))), .val (.ref b1), .val (.int (Nat.toInt32 (f + N / 4 * 4))), .val (.long acc), .second, .val (.int (Nat.toInt32 ((f + N / 4 * 4) + j)))] [(.int ((16 : Int32) * (Nat.toInt32 j))), (.long ((u ((f + N / 4 * 4) + j)).toInt64)), (.long acc)]))
        refine zq_go (fun _ kq => XS.lshl X9.here hx rfl (hb hby zq_d3_123) rfl kq) ?_
        show zq_Go p e below s _ _ _ (T9.setTop (mkF m 124 #[.val (.ref a), .val (.ref ar), .val (.int (Nat.toInt32 f)), .val (.int (Nat.toInt32 (f + N))), .val (.ref b1), .val (.int (Nat.toInt32 (f + N / 4 * 4))), .val (.long acc), .second, .val (.int (Nat.toInt32 ((f + N / 4 * 4) + j)))] [(.long (((u ((f + N / 4 * 4) + j)).toInt64) <<< (((16 : Int32) * (Nat.toInt32 j)) &&& 0x3f).toInt64)), (.long acc)]))
        refine zq_go (fun _ kq => XS.lor X9.here hx rfl (hb hby zq_d3_124) rfl kq) ?_
        show zq_Go p e below s _ _ _ (T9.setTop (mkF m 125 #[.val (.ref a), .val (.ref ar), .val (.int (Nat.toInt32 f)), .val (.int (Nat.toInt32 (f + N))), .val (.ref b1), .val (.int (Nat.toInt32 (f + N / 4 * 4))), .val (.long acc), .second, .val (.int (Nat.toInt32 ((f + N / 4 * 4) + j)))] [(.long (acc ||| (((u ((f + N / 4 * 4) + j)).toInt64) <<< (((16 : Int32) * (Nat.toInt32 j)) &&& 0x3f).toInt64)))]))
        refine zq_go (fun _ kq => XS.lstore X9.here hx rfl (hb hby zq_d3_125) rfl (l' := #[.val (.ref a), .val (.ref ar), .val (.int (Nat.toInt32 f)), .val (.int (Nat.toInt32 (f + N))), .val (.ref b1), .val (.int (Nat.toInt32 (f + N / 4 * 4))), .val (.long (acc ||| (((u ((f + N / 4 * 4) + j)).toInt64) <<< (((16 : Int32) * (Nat.toInt32 j)) &&& 0x3f).toInt64))), .second, .val (.int (Nat.toInt32 ((f + N / 4 * 4) + j)))]) rfl kq) ?_
        show zq_Go p e below s _ _ _ (T9.setTop (mkF m 127 #[.val (.ref a), .val (.ref ar), .val (.int (Nat.toInt32 f)), .val (.int (Nat.toInt32 (f + N))), .val (.ref b1), .val (.int (Nat.toInt32 (f + N / 4 * 4))), .val (.long (acc ||| (((u ((f + N / 4 * 4) + j)).toInt64) <<< (((16 : Int32) * (Nat.toInt32 j)) &&& 0x3f).toInt64))), .second, .val (.int (Nat.toInt32 ((f + N / 4 * 4) + j)))] []))
        refine zq_go (fun _ kq => XS.iinc X9.here hx rfl (hb hby zq_d3_127) rfl (l' := #[.val (.ref a), .val (.ref ar), .val (.int (Nat.toInt32 f)), .val (.int (Nat.toInt32 (f + N))), .val (.ref b1), .val (.int (Nat.toInt32 (f + N / 4 * 4))), .val (.long (acc ||| (((u ((f + N / 4 * 4) + j)).toInt64) <<< (((16 : Int32) * (Nat.toInt32 j)) &&& 0x3f).toInt64))), .second, .val (.int ((Nat.toInt32 ((f + N / 4 * 4) + j)) + (1 : Int32)))]) rfl kq) ?_
        show zq_Go p e below s _ _ _ (T9.setTop (mkF m 130 #[.val (.ref a), .val (.ref ar), .val (.int (Nat.toInt32 f)), .val (.int (Nat.toInt32 (f + N))), .val (.ref b1), .val (.int (Nat.toInt32 (f + N / 4 * 4))), .val (.long (acc ||| (((u ((f + N / 4 * 4) + j)).toInt64) <<< (((16 : Int32) * (Nat.toInt32 j)) &&& 0x3f).toInt64))), .second, .val (.int ((Nat.toInt32 ((f + N / 4 * 4) + j)) + (1 : Int32)))] []))
        refine zq_go (fun _ kq => XS.goto X9.here hx rfl (pc0 := 130) (pc' := 102) rfl (hb hby zq_d3_130) (by decide) (by decide) kq) ?_
        show zq_Go p e below s _ _ _ (T9.setTop (mkF m 102 #[.val (.ref a), .val (.ref ar), .val (.int (Nat.toInt32 f)), .val (.int (Nat.toInt32 (f + N))), .val (.ref b1), .val (.int (Nat.toInt32 (f + N / 4 * 4))), .val (.long (acc ||| (((u ((f + N / 4 * 4) + j)).toInt64) <<< (((16 : Int32) * (Nat.toInt32 j)) &&& 0x3f).toInt64))), .second, .val (.int ((Nat.toInt32 ((f + N / 4 * 4) + j)) + (1 : Int32)))] []))
        rw [zq_inc (by omega)]
        exact ih (j + 1) _ (by omega) (by rw [← je]; rfl)
    exact loop _ 0 _ (by omega) rfl
  by_cases hN4 : 4 ≤ N
  ·
    show zq_Go p e below s _ _ _ (T4.setTop (mkF m 31 #[.val (.ref a), .val (.ref ar), .val (.int (Nat.toInt32 f)), .val (.int (Nat.toInt32 (f + N))), .val (.ref b1), .val (.int (Nat.toInt32 (f + N / 4 * 4))), .val (.int (Nat.toInt32 f)), .unset, .unset] []))
    refine zq_go (fun _ kq => XS.iload X4.here hx rfl (hb hby zq_d3_31) rfl kq) ?_
    show zq_Go p e below s _ _ _ (T4.setTop (mkF m 33 #[.val (.ref a), .val (.ref ar), .val (.int (Nat.toInt32 f)), .val (.int (Nat.toInt32 (f + N))), .val (.ref b1), .val (.int (Nat.toInt32 (f + N / 4 * 4))), .val (.int (Nat.toInt32 f)), .unset, .unset] [(.int (Nat.toInt32 f))]))
    refine zq_go (fun _ kq => XS.iload X4.here hx rfl (hb hby zq_d3_33) rfl kq) ?_
    show zq_Go p e below s _ _ _ (T4.setTop (mkF m 35 #[.val (.ref a), .val (.ref ar), .val (.int (Nat.toInt32 f)), .val (.int (Nat.toInt32 (f + N))), .val (.ref b1), .val (.int (Nat.toInt32 (f + N / 4 * 4))), .val (.int (Nat.toInt32 f)), .unset, .unset] [(.int (Nat.toInt32 (f + N / 4 * 4))), (.int (Nat.toInt32 f))]))
    refine zq_go (fun _ kq => XS.icmpNo X4.here hx rfl (hb hby zq_d3_35) rfl (tlt ((zq_lt (by omega) (by omega)).mpr (by omega) : (Nat.toInt32 f) < (Nat.toInt32 (f + N / 4 * 4)))).2.1 kq) ?_
    show zq_Go p e below s _ _ _ (T4.setTop (mkF m 38 #[.val (.ref a), .val (.ref ar), .val (.int (Nat.toInt32 f)), .val (.int (Nat.toInt32 (f + N))), .val (.ref b1), .val (.int (Nat.toInt32 (f + N / 4 * 4))), .val (.int (Nat.toInt32 f)), .unset, .unset] []))
    refine zq_go (fun _ kq => XS.aload X4.here hx rfl (hb hby zq_d3_38) rfl rfl kq) ?_
    show zq_Go p e below s _ _ _ (T4.setTop (mkF m 40 #[.val (.ref a), .val (.ref ar), .val (.int (Nat.toInt32 f)), .val (.int (Nat.toInt32 (f + N))), .val (.ref b1), .val (.int (Nat.toInt32 (f + N / 4 * 4))), .val (.int (Nat.toInt32 f)), .unset, .unset] [(.ref b1)]))
    refine zq_go (fun _ kq => XS.aloadN X4.here hx rfl (hb hby zq_d3_40) rfl rfl kq) ?_
    show zq_Go p e below s _ _ _ (T4.setTop (mkF m 41 #[.val (.ref a), .val (.ref ar), .val (.int (Nat.toInt32 f)), .val (.int (Nat.toInt32 (f + N))), .val (.ref b1), .val (.int (Nat.toInt32 (f + N / 4 * 4))), .val (.int (Nat.toInt32 f)), .unset, .unset] [(.ref ar), (.ref b1)]))
    refine zq_go (fun _ kq => XS.iload X4.here hx rfl (hb hby zq_d3_41) rfl kq) ?_
    show zq_Go p e below s _ _ _ (T4.setTop (mkF m 43 #[.val (.ref a), .val (.ref ar), .val (.int (Nat.toInt32 f)), .val (.int (Nat.toInt32 (f + N))), .val (.ref b1), .val (.int (Nat.toInt32 (f + N / 4 * 4))), .val (.int (Nat.toInt32 f)), .unset, .unset] [(.int (Nat.toInt32 f)), (.ref ar), (.ref b1)]))
    refine zq_go (zq_ldC X4 hx hZ rfl A_ar (j := (Nat.toInt32 f)) (i := f) (zq_cl (by omega)) (zq_nn (by omega)) (by omega) (g := (mkF m 43 #[.val (.ref a), .val (.ref ar), .val (.int (Nat.toInt32 f)), .val (.int (Nat.toInt32 (f + N))), .val (.ref b1), .val (.int (Nat.toInt32 (f + N / 4 * 4))), .val (.int (Nat.toInt32 f)), .unset, .unset] [(.int (Nat.toInt32 f)), (.ref ar), (.ref b1)])) rfl rfl (hb hby zq_d3_43)) ?_
    show zq_Go p e below s _ _ _ (T4.setTop (mkF m 44 #[.val (.ref a), .val (.ref ar), .val (.int (Nat.toInt32 f)), .val (.int (Nat.toInt32 (f + N))), .val (.ref b1), .val (.int (Nat.toInt32 (f + N / 4 * 4))), .val (.int (Nat.toInt32 f)), .unset, .unset] [(.int (u f)), (.ref b1)]))
    refine zq_go (fun _ kq => XS.i2l X4.here hx rfl (hb hby zq_d3_44) rfl kq) ?_
    show zq_Go p e below s _ _ _ (T4.setTop (mkF m 45 #[.val (.ref a), .val (.ref ar), .val (.int (Nat.toInt32 f)), .val (.int (Nat.toInt32 (f + N))), .val (.ref b1), .val (.int (Nat.toInt32 (f + N / 4 * 4))), .val (.int (Nat.toInt32 f)), .unset, .unset] [(.long ((u f).toInt64)), (.ref b1)]))
    refine zq_go (fun _ kq => XS.aloadN X4.here hx rfl (hb hby zq_d3_45) rfl rfl kq) ?_
    show zq_Go p e below s _ _ _ (T4.setTop (mkF m 46 #[.val (.ref a), .val (.ref ar), .val (.int (Nat.toInt32 f)), .val (.int (Nat.toInt32 (f + N))), .val (.ref b1), .val (.int (Nat.toInt32 (f + N / 4 * 4))), .val (.int (Nat.toInt32 f)), .unset, .unset] [(.ref ar), (.long ((u f).toInt64)), (.ref b1)]))
    refine zq_go (fun _ kq => XS.iload X4.here hx rfl (hb hby zq_d3_46) rfl kq) ?_
    show zq_Go p e below s _ _ _ (T4.setTop (mkF m 48 #[.val (.ref a), .val (.ref ar), .val (.int (Nat.toInt32 f)), .val (.int (Nat.toInt32 (f + N))), .val (.ref b1), .val (.int (Nat.toInt32 (f + N / 4 * 4))), .val (.int (Nat.toInt32 f)), .unset, .unset] [(.int (Nat.toInt32 f)), (.ref ar), (.long ((u f).toInt64)), (.ref b1)]))
    refine zq_go (fun _ kq => XS.iconst X4.here hx rfl (hb hby zq_d3_48) kq) ?_
    show zq_Go p e below s _ _ _ (T4.setTop (mkF m 49 #[.val (.ref a), .val (.ref ar), .val (.int (Nat.toInt32 f)), .val (.int (Nat.toInt32 (f + N))), .val (.ref b1), .val (.int (Nat.toInt32 (f + N / 4 * 4))), .val (.int (Nat.toInt32 f)), .unset, .unset] [(.int (1 : Int32)), (.int (Nat.toInt32 f)), (.ref ar), (.long ((u f).toInt64)), (.ref b1)]))
    refine zq_go (fun _ kq => XS.iadd X4.here hx rfl (hb hby zq_d3_49) rfl kq) ?_
    show zq_Go p e below s _ _ _ (T4.setTop (mkF m 50 #[.val (.ref a), .val (.ref ar), .val (.int (Nat.toInt32 f)), .val (.int (Nat.toInt32 (f + N))), .val (.ref b1), .val (.int (Nat.toInt32 (f + N / 4 * 4))), .val (.int (Nat.toInt32 f)), .unset, .unset] [(.int ((Nat.toInt32 f) + (1 : Int32))), (.ref ar), (.long ((u f).toInt64)), (.ref b1)]))
    refine zq_go (zq_ldC X4 hx hZ rfl A_ar (j := ((Nat.toInt32 f) + (1 : Int32))) (i := (f + 1)) (zq_ixc (k := 1) (by omega)) (zq_ixn (k := 1) (by omega)) (by omega) (g := (mkF m 50 #[.val (.ref a), .val (.ref ar), .val (.int (Nat.toInt32 f)), .val (.int (Nat.toInt32 (f + N))), .val (.ref b1), .val (.int (Nat.toInt32 (f + N / 4 * 4))), .val (.int (Nat.toInt32 f)), .unset, .unset] [(.int ((Nat.toInt32 f) + (1 : Int32))), (.ref ar), (.long ((u f).toInt64)), (.ref b1)])) rfl rfl (hb hby zq_d3_50)) ?_
    show zq_Go p e below s _ _ _ (T4.setTop (mkF m 51 #[.val (.ref a), .val (.ref ar), .val (.int (Nat.toInt32 f)), .val (.int (Nat.toInt32 (f + N))), .val (.ref b1), .val (.int (Nat.toInt32 (f + N / 4 * 4))), .val (.int (Nat.toInt32 f)), .unset, .unset] [(.int (u (f + 1))), (.long ((u f).toInt64)), (.ref b1)]))
    refine zq_go (fun _ kq => XS.i2l X4.here hx rfl (hb hby zq_d3_51) rfl kq) ?_
    show zq_Go p e below s _ _ _ (T4.setTop (mkF m 52 #[.val (.ref a), .val (.ref ar), .val (.int (Nat.toInt32 f)), .val (.int (Nat.toInt32 (f + N))), .val (.ref b1), .val (.int (Nat.toInt32 (f + N / 4 * 4))), .val (.int (Nat.toInt32 f)), .unset, .unset] [(.long ((u (f + 1)).toInt64)), (.long ((u f).toInt64)), (.ref b1)]))
    refine zq_go (fun _ kq => XS.bipush X4.here hx rfl (hb hby zq_d3_52) kq) ?_
    show zq_Go p e below s _ _ _ (T4.setTop (mkF m 54 #[.val (.ref a), .val (.ref ar), .val (.int (Nat.toInt32 f)), .val (.int (Nat.toInt32 (f + N))), .val (.ref b1), .val (.int (Nat.toInt32 (f + N / 4 * 4))), .val (.int (Nat.toInt32 f)), .unset, .unset] [(.int (16 : Int32)), (.long ((u (f + 1)).toInt64)), (.long ((u f).toInt64)), (.ref b1)]))
    refine zq_go (fun _ kq => XS.lshl X4.here hx rfl (hb hby zq_d3_54) rfl kq) ?_
    show zq_Go p e below s _ _ _ (T4.setTop (mkF m 55 #[.val (.ref a), .val (.ref ar), .val (.int (Nat.toInt32 f)), .val (.int (Nat.toInt32 (f + N))), .val (.ref b1), .val (.int (Nat.toInt32 (f + N / 4 * 4))), .val (.int (Nat.toInt32 f)), .unset, .unset] [(.long (((u (f + 1)).toInt64) <<< ((16 : Int32) &&& 0x3f).toInt64)), (.long ((u f).toInt64)), (.ref b1)]))
    refine zq_go (fun _ kq => XS.lor X4.here hx rfl (hb hby zq_d3_55) rfl kq) ?_
    show zq_Go p e below s _ _ _ (T4.setTop (mkF m 56 #[.val (.ref a), .val (.ref ar), .val (.int (Nat.toInt32 f)), .val (.int (Nat.toInt32 (f + N))), .val (.ref b1), .val (.int (Nat.toInt32 (f + N / 4 * 4))), .val (.int (Nat.toInt32 f)), .unset, .unset] [(.long (((u f).toInt64) ||| (((u (f + 1)).toInt64) <<< ((16 : Int32) &&& 0x3f).toInt64))), (.ref b1)]))
    refine zq_go (fun _ kq => XS.aloadN X4.here hx rfl (hb hby zq_d3_56) rfl rfl kq) ?_
    show zq_Go p e below s _ _ _ (T4.setTop (mkF m 57 #[.val (.ref a), .val (.ref ar), .val (.int (Nat.toInt32 f)), .val (.int (Nat.toInt32 (f + N))), .val (.ref b1), .val (.int (Nat.toInt32 (f + N / 4 * 4))), .val (.int (Nat.toInt32 f)), .unset, .unset] [(.ref ar), (.long (((u f).toInt64) ||| (((u (f + 1)).toInt64) <<< ((16 : Int32) &&& 0x3f).toInt64))), (.ref b1)]))
    refine zq_go (fun _ kq => XS.iload X4.here hx rfl (hb hby zq_d3_57) rfl kq) ?_
    show zq_Go p e below s _ _ _ (T4.setTop (mkF m 59 #[.val (.ref a), .val (.ref ar), .val (.int (Nat.toInt32 f)), .val (.int (Nat.toInt32 (f + N))), .val (.ref b1), .val (.int (Nat.toInt32 (f + N / 4 * 4))), .val (.int (Nat.toInt32 f)), .unset, .unset] [(.int (Nat.toInt32 f)), (.ref ar), (.long (((u f).toInt64) ||| (((u (f + 1)).toInt64) <<< ((16 : Int32) &&& 0x3f).toInt64))), (.ref b1)]))
    refine zq_go (fun _ kq => XS.iconst X4.here hx rfl (hb hby zq_d3_59) kq) ?_
    show zq_Go p e below s _ _ _ (T4.setTop (mkF m 60 #[.val (.ref a), .val (.ref ar), .val (.int (Nat.toInt32 f)), .val (.int (Nat.toInt32 (f + N))), .val (.ref b1), .val (.int (Nat.toInt32 (f + N / 4 * 4))), .val (.int (Nat.toInt32 f)), .unset, .unset] [(.int (2 : Int32)), (.int (Nat.toInt32 f)), (.ref ar), (.long (((u f).toInt64) ||| (((u (f + 1)).toInt64) <<< ((16 : Int32) &&& 0x3f).toInt64))), (.ref b1)]))
    refine zq_go (fun _ kq => XS.iadd X4.here hx rfl (hb hby zq_d3_60) rfl kq) ?_
    show zq_Go p e below s _ _ _ (T4.setTop (mkF m 61 #[.val (.ref a), .val (.ref ar), .val (.int (Nat.toInt32 f)), .val (.int (Nat.toInt32 (f + N))), .val (.ref b1), .val (.int (Nat.toInt32 (f + N / 4 * 4))), .val (.int (Nat.toInt32 f)), .unset, .unset] [(.int ((Nat.toInt32 f) + (2 : Int32))), (.ref ar), (.long (((u f).toInt64) ||| (((u (f + 1)).toInt64) <<< ((16 : Int32) &&& 0x3f).toInt64))), (.ref b1)]))
    refine zq_go (zq_ldC X4 hx hZ rfl A_ar (j := ((Nat.toInt32 f) + (2 : Int32))) (i := (f + 2)) (zq_ixc (k := 2) (by omega)) (zq_ixn (k := 2) (by omega)) (by omega) (g := (mkF m 61 #[.val (.ref a), .val (.ref ar), .val (.int (Nat.toInt32 f)), .val (.int (Nat.toInt32 (f + N))), .val (.ref b1), .val (.int (Nat.toInt32 (f + N / 4 * 4))), .val (.int (Nat.toInt32 f)), .unset, .unset] [(.int ((Nat.toInt32 f) + (2 : Int32))), (.ref ar), (.long (((u f).toInt64) ||| (((u (f + 1)).toInt64) <<< ((16 : Int32) &&& 0x3f).toInt64))), (.ref b1)])) rfl rfl (hb hby zq_d3_61)) ?_
    show zq_Go p e below s _ _ _ (T4.setTop (mkF m 62 #[.val (.ref a), .val (.ref ar), .val (.int (Nat.toInt32 f)), .val (.int (Nat.toInt32 (f + N))), .val (.ref b1), .val (.int (Nat.toInt32 (f + N / 4 * 4))), .val (.int (Nat.toInt32 f)), .unset, .unset] [(.int (u (f + 2))), (.long (((u f).toInt64) ||| (((u (f + 1)).toInt64) <<< ((16 : Int32) &&& 0x3f).toInt64))), (.ref b1)]))
    refine zq_go (fun _ kq => XS.i2l X4.here hx rfl (hb hby zq_d3_62) rfl kq) ?_
    show zq_Go p e below s _ _ _ (T4.setTop (mkF m 63 #[.val (.ref a), .val (.ref ar), .val (.int (Nat.toInt32 f)), .val (.int (Nat.toInt32 (f + N))), .val (.ref b1), .val (.int (Nat.toInt32 (f + N / 4 * 4))), .val (.int (Nat.toInt32 f)), .unset, .unset] [(.long ((u (f + 2)).toInt64)), (.long (((u f).toInt64) ||| (((u (f + 1)).toInt64) <<< ((16 : Int32) &&& 0x3f).toInt64))), (.ref b1)]))
    refine zq_go (fun _ kq => XS.bipush X4.here hx rfl (hb hby zq_d3_63) kq) ?_
    show zq_Go p e below s _ _ _ (T4.setTop (mkF m 65 #[.val (.ref a), .val (.ref ar), .val (.int (Nat.toInt32 f)), .val (.int (Nat.toInt32 (f + N))), .val (.ref b1), .val (.int (Nat.toInt32 (f + N / 4 * 4))), .val (.int (Nat.toInt32 f)), .unset, .unset] [(.int (32 : Int32)), (.long ((u (f + 2)).toInt64)), (.long (((u f).toInt64) ||| (((u (f + 1)).toInt64) <<< ((16 : Int32) &&& 0x3f).toInt64))), (.ref b1)]))
    refine zq_go (fun _ kq => XS.lshl X4.here hx rfl (hb hby zq_d3_65) rfl kq) ?_
    show zq_Go p e below s _ _ _ (T4.setTop (mkF m 66 #[.val (.ref a), .val (.ref ar), .val (.int (Nat.toInt32 f)), .val (.int (Nat.toInt32 (f + N))), .val (.ref b1), .val (.int (Nat.toInt32 (f + N / 4 * 4))), .val (.int (Nat.toInt32 f)), .unset, .unset] [(.long (((u (f + 2)).toInt64) <<< ((32 : Int32) &&& 0x3f).toInt64)), (.long (((u f).toInt64) ||| (((u (f + 1)).toInt64) <<< ((16 : Int32) &&& 0x3f).toInt64))), (.ref b1)]))
    refine zq_go (fun _ kq => XS.lor X4.here hx rfl (hb hby zq_d3_66) rfl kq) ?_
    show zq_Go p e below s _ _ _ (T4.setTop (mkF m 67 #[.val (.ref a), .val (.ref ar), .val (.int (Nat.toInt32 f)), .val (.int (Nat.toInt32 (f + N))), .val (.ref b1), .val (.int (Nat.toInt32 (f + N / 4 * 4))), .val (.int (Nat.toInt32 f)), .unset, .unset] [(.long ((((u f).toInt64) ||| (((u (f + 1)).toInt64) <<< ((16 : Int32) &&& 0x3f).toInt64)) ||| (((u (f + 2)).toInt64) <<< ((32 : Int32) &&& 0x3f).toInt64))), (.ref b1)]))
    refine zq_go (fun _ kq => XS.aloadN X4.here hx rfl (hb hby zq_d3_67) rfl rfl kq) ?_
    show zq_Go p e below s _ _ _ (T4.setTop (mkF m 68 #[.val (.ref a), .val (.ref ar), .val (.int (Nat.toInt32 f)), .val (.int (Nat.toInt32 (f + N))), .val (.ref b1), .val (.int (Nat.toInt32 (f + N / 4 * 4))), .val (.int (Nat.toInt32 f)), .unset, .unset] [(.ref ar), (.long ((((u f).toInt64) ||| (((u (f + 1)).toInt64) <<< ((16 : Int32) &&& 0x3f).toInt64)) ||| (((u (f + 2)).toInt64) <<< ((32 : Int32) &&& 0x3f).toInt64))), (.ref b1)]))
    refine zq_go (fun _ kq => XS.iload X4.here hx rfl (hb hby zq_d3_68) rfl kq) ?_
    show zq_Go p e below s _ _ _ (T4.setTop (mkF m 70 #[.val (.ref a), .val (.ref ar), .val (.int (Nat.toInt32 f)), .val (.int (Nat.toInt32 (f + N))), .val (.ref b1), .val (.int (Nat.toInt32 (f + N / 4 * 4))), .val (.int (Nat.toInt32 f)), .unset, .unset] [(.int (Nat.toInt32 f)), (.ref ar), (.long ((((u f).toInt64) ||| (((u (f + 1)).toInt64) <<< ((16 : Int32) &&& 0x3f).toInt64)) ||| (((u (f + 2)).toInt64) <<< ((32 : Int32) &&& 0x3f).toInt64))), (.ref b1)]))
    refine zq_go (fun _ kq => XS.iconst X4.here hx rfl (hb hby zq_d3_70) kq) ?_
    show zq_Go p e below s _ _ _ (T4.setTop (mkF m 71 #[.val (.ref a), .val (.ref ar), .val (.int (Nat.toInt32 f)), .val (.int (Nat.toInt32 (f + N))), .val (.ref b1), .val (.int (Nat.toInt32 (f + N / 4 * 4))), .val (.int (Nat.toInt32 f)), .unset, .unset] [(.int (3 : Int32)), (.int (Nat.toInt32 f)), (.ref ar), (.long ((((u f).toInt64) ||| (((u (f + 1)).toInt64) <<< ((16 : Int32) &&& 0x3f).toInt64)) ||| (((u (f + 2)).toInt64) <<< ((32 : Int32) &&& 0x3f).toInt64))), (.ref b1)]))
    refine zq_go (fun _ kq => XS.iadd X4.here hx rfl (hb hby zq_d3_71) rfl kq) ?_
    show zq_Go p e below s _ _ _ (T4.setTop (mkF m 72 #[.val (.ref a), .val (.ref ar), .val (.int (Nat.toInt32 f)), .val (.int (Nat.toInt32 (f + N))), .val (.ref b1), .val (.int (Nat.toInt32 (f + N / 4 * 4))), .val (.int (Nat.toInt32 f)), .unset, .unset] [(.int ((Nat.toInt32 f) + (3 : Int32))), (.ref ar), (.long ((((u f).toInt64) ||| (((u (f + 1)).toInt64) <<< ((16 : Int32) &&& 0x3f).toInt64)) ||| (((u (f + 2)).toInt64) <<< ((32 : Int32) &&& 0x3f).toInt64))), (.ref b1)]))
    refine zq_go (zq_ldC X4 hx hZ rfl A_ar (j := ((Nat.toInt32 f) + (3 : Int32))) (i := (f + 3)) (zq_ixc (k := 3) (by omega)) (zq_ixn (k := 3) (by omega)) (by omega) (g := (mkF m 72 #[.val (.ref a), .val (.ref ar), .val (.int (Nat.toInt32 f)), .val (.int (Nat.toInt32 (f + N))), .val (.ref b1), .val (.int (Nat.toInt32 (f + N / 4 * 4))), .val (.int (Nat.toInt32 f)), .unset, .unset] [(.int ((Nat.toInt32 f) + (3 : Int32))), (.ref ar), (.long ((((u f).toInt64) ||| (((u (f + 1)).toInt64) <<< ((16 : Int32) &&& 0x3f).toInt64)) ||| (((u (f + 2)).toInt64) <<< ((32 : Int32) &&& 0x3f).toInt64))), (.ref b1)])) rfl rfl (hb hby zq_d3_72)) ?_
    show zq_Go p e below s _ _ _ (T4.setTop (mkF m 73 #[.val (.ref a), .val (.ref ar), .val (.int (Nat.toInt32 f)), .val (.int (Nat.toInt32 (f + N))), .val (.ref b1), .val (.int (Nat.toInt32 (f + N / 4 * 4))), .val (.int (Nat.toInt32 f)), .unset, .unset] [(.int (u (f + 3))), (.long ((((u f).toInt64) ||| (((u (f + 1)).toInt64) <<< ((16 : Int32) &&& 0x3f).toInt64)) ||| (((u (f + 2)).toInt64) <<< ((32 : Int32) &&& 0x3f).toInt64))), (.ref b1)]))
    refine zq_go (fun _ kq => XS.i2l X4.here hx rfl (hb hby zq_d3_73) rfl kq) ?_
    show zq_Go p e below s _ _ _ (T4.setTop (mkF m 74 #[.val (.ref a), .val (.ref ar), .val (.int (Nat.toInt32 f)), .val (.int (Nat.toInt32 (f + N))), .val (.ref b1), .val (.int (Nat.toInt32 (f + N / 4 * 4))), .val (.int (Nat.toInt32 f)), .unset, .unset] [(.long ((u (f + 3)).toInt64)), (.long ((((u f).toInt64) ||| (((u (f + 1)).toInt64) <<< ((16 : Int32) &&& 0x3f).toInt64)) ||| (((u (f + 2)).toInt64) <<< ((32 : Int32) &&& 0x3f).toInt64))), (.ref b1)]))
    refine zq_go (fun _ kq => XS.bipush X4.here hx rfl (hb hby zq_d3_74) kq) ?_
    show zq_Go p e below s _ _ _ (T4.setTop (mkF m 76 #[.val (.ref a), .val (.ref ar), .val (.int (Nat.toInt32 f)), .val (.int (Nat.toInt32 (f + N))), .val (.ref b1), .val (.int (Nat.toInt32 (f + N / 4 * 4))), .val (.int (Nat.toInt32 f)), .unset, .unset] [(.int (48 : Int32)), (.long ((u (f + 3)).toInt64)), (.long ((((u f).toInt64) ||| (((u (f + 1)).toInt64) <<< ((16 : Int32) &&& 0x3f).toInt64)) ||| (((u (f + 2)).toInt64) <<< ((32 : Int32) &&& 0x3f).toInt64))), (.ref b1)]))
    refine zq_go (fun _ kq => XS.lshl X4.here hx rfl (hb hby zq_d3_76) rfl kq) ?_
    show zq_Go p e below s _ _ _ (T4.setTop (mkF m 77 #[.val (.ref a), .val (.ref ar), .val (.int (Nat.toInt32 f)), .val (.int (Nat.toInt32 (f + N))), .val (.ref b1), .val (.int (Nat.toInt32 (f + N / 4 * 4))), .val (.int (Nat.toInt32 f)), .unset, .unset] [(.long (((u (f + 3)).toInt64) <<< ((48 : Int32) &&& 0x3f).toInt64)), (.long ((((u f).toInt64) ||| (((u (f + 1)).toInt64) <<< ((16 : Int32) &&& 0x3f).toInt64)) ||| (((u (f + 2)).toInt64) <<< ((32 : Int32) &&& 0x3f).toInt64))), (.ref b1)]))
    refine zq_go (fun _ kq => XS.lor X4.here hx rfl (hb hby zq_d3_77) rfl kq) ?_
    show zq_Go p e below s _ _ _ (T4.setTop (mkF m 78 #[.val (.ref a), .val (.ref ar), .val (.int (Nat.toInt32 f)), .val (.int (Nat.toInt32 (f + N))), .val (.ref b1), .val (.int (Nat.toInt32 (f + N / 4 * 4))), .val (.int (Nat.toInt32 f)), .unset, .unset] [(.long (((((u f).toInt64) ||| (((u (f + 1)).toInt64) <<< ((16 : Int32) &&& 0x3f).toInt64)) ||| (((u (f + 2)).toInt64) <<< ((32 : Int32) &&& 0x3f).toInt64)) ||| (((u (f + 3)).toInt64) <<< ((48 : Int32) &&& 0x3f).toInt64))), (.ref b1)]))
    obtain ⟨_, T6, L6, X6, ⟨rfl, Nq6, K6, G0_6, G1_6, G2_6, G3_6⟩, st6⟩ := zq_callV (W := 0) X4 hx hZ hown (hw _ (List.mem_of_getElem? (i := 82) rfl)) (hw _ (List.mem_of_getElem? (i := 44) rfl)) (hw _ (List.mem_of_getElem? (i := 46) rfl)) (hw _ (List.mem_of_getElem? (i := 45) rfl)) (hw _ (List.mem_of_getElem? (i := 21) rfl)) (hw _ (List.mem_of_getElem? (i := 47) rfl)) (by decide) (zq_rmST l Z a0 hw [] b1 (((((u f).toInt64) ||| (((u (f + 1)).toInt64) <<< ((16 : Int32) &&& 0x3f).toInt64)) ||| (((u (f + 2)).toInt64) <<< ((32 : Int32) &&& 0x3f).toInt64)) ||| (((u (f + 3)).toInt64) <<< ((48 : Int32) &&& 0x3f).toInt64)) T4.heap n0 ((zq_iv k0 k1).1, (zq_iv k0 k1).2.1, (zq_iv k0 k1).2.2.1, (zq_iv k0 k1).2.2.2) E_b1 F_v0_b1 F_v1_b1 F_v2_b1 F_v3_b1 g_b1) rfl E_b1 (by decide) (by decide) (by decide) (by decide) (g := (mkF m 78 #[.val (.ref a), .val (.ref ar), .val (.int (Nat.toInt32 f)), .val (.int (Nat.toInt32 (f + N))), .val (.ref b1), .val (.int (Nat.toInt32 (f + N / 4 * 4))), .val (.int (Nat.toInt32 f)), .unset, .unset] [(.long (((((u f).toInt64) ||| (((u (f + 1)).toInt64) <<< ((16 : Int32) &&& 0x3f).toInt64)) ||| (((u (f + 2)).toInt64) <<< ((32 : Int32) &&& 0x3f).toInt64)) ||| (((u (f + 3)).toInt64) <<< ((48 : Int32) &&& 0x3f).toInt64))), (.ref b1)])) rfl (by rw [hml]; rfl) (a := b1) (argsL := [(.long (((((u f).toInt64) ||| (((u (f + 1)).toInt64) <<< ((16 : Int32) &&& 0x3f).toInt64)) ||| (((u (f + 2)).toInt64) <<< ((32 : Int32) &&& 0x3f).toInt64)) ||| (((u (f + 3)).toInt64) <<< ((48 : Int32) &&& 0x3f).toInt64)))]) (rest := []) (lenOf zq_pd5 rfl) rfl (by show 2 * 0 + _ ≤ _; exact Nat.le_of_eq rfl) (hb hby zq_d3_78)
    have F_key0_a := F_key0_a.keep K6 (ninS ne_a_b1 nin0)
    have F_key1_a := F_key1_a.keep K6 (ninS ne_a_b1 nin0)
    have A_ar := A_ar.keep K6 (ninS ne_ar_b1 nin0)
    have E_b1 := E_b1.keep K6
    have ZS := Nat.le_trans ZS K6.1
    have KP := KP.trans K6 (allS (P := fun x => x ∈ [] ∨ h0.size ≤ x) (Or.inr sz_b1) (all0))
    obtain ⟨t6, ht6⟩ : ∃ z : zq_V, z = zq_tk zq_rd ((zq_iv k0 k1).1, (zq_iv k0 k1).2.1, (zq_iv k0 k1).2.2.1, (zq_iv k0 k1).2.2.2) (((((u f).toInt64) ||| (((u (f + 1)).toInt64) <<< ((16 : Int32) &&& 0x3f).toInt64)) ||| (((u (f + 2)).toInt64) <<< ((32 : Int32) &&& 0x3f).toInt64)) ||| (((u (f + 3)).toInt64) <<< ((48 : Int32) &&& 0x3f).toInt64)) := ⟨_, rfl⟩
    have F_v0_b1 : Fld Z T6.heap b1 "com/example/clearline/clearline/formats/TableHash$Sip" "v0" "J" (.long t6.1) := by rw [ht6]; exact G0_6
    have F_v1_b1 : Fld Z T6.heap b1 "com/example/clearline/clearline/formats/TableHash$Sip" "v1" "J" (.long t6.2.1) := by rw [ht6]; exact G1_6
    have F_v2_b1 : Fld Z T6.heap b1 "com/example/clearline/clearline/formats/TableHash$Sip" "v2" "J" (.long t6.2.2.1) := by rw [ht6]; exact G2_6
    have F_v3_b1 : Fld Z T6.heap b1 "com/example/clearline/clearline/formats/TableHash$Sip" "v3" "J" (.long t6.2.2.2) := by rw [ht6]; exact G3_6
    obtain ⟨L6, X6, NF⟩ : ∃ L : List Loc, Stand p l e ({ frames := 4, cells := 1, slots := 4, locals := 57 } : Room) s m #[(.ref a), (.ref ar), (.int (Nat.toInt32 f)), (.int (Nat.toInt32 (f + N)))] below meth c T6 L 1 4 ∧ Fr n0 L := ⟨_, X6, Fr.app NF Nq6⟩
    refine zq_go st6 ?_
    show zq_Go p e below s _ _ _ (T6.setTop (mkF m 81 #[.val (.ref a), .val (.ref ar), .val (.int (Nat.toInt32 f)), .val (.int (Nat.toInt32 (f + N))), .val (.ref b1), .val (.int (Nat.toInt32 (f + N / 4 * 4))), .val (.int (Nat.toInt32 f)), .unset, .unset] []))
    refine zq_go (fun _ kq => XS.iinc X6.here hx rfl (hb hby zq_d3_81) rfl (l' := #[.val (.ref a), .val (.ref ar), .val (.int (Nat.toInt32 f)), .val (.int (Nat.toInt32 (f + N))), .val (.ref b1), .val (.int (Nat.toInt32 (f + N / 4 * 4))), .val (.int ((Nat.toInt32 f) + (4 : Int32))), .unset, .unset]) rfl kq) ?_
    show zq_Go p e below s _ _ _ (T6.setTop (mkF m 84 #[.val (.ref a), .val (.ref ar), .val (.int (Nat.toInt32 f)), .val (.int (Nat.toInt32 (f + N))), .val (.ref b1), .val (.int (Nat.toInt32 (f + N / 4 * 4))), .val (.int ((Nat.toInt32 f) + (4 : Int32))), .unset, .unset] []))
    refine zq_go (fun _ kq => XS.goto X6.here hx rfl (pc0 := 84) (pc' := 31) rfl (hb hby zq_d3_84) (by decide) (by decide) kq) ?_
    show zq_Go p e below s _ _ _ (T6.setTop (mkF m 31 #[.val (.ref a), .val (.ref ar), .val (.int (Nat.toInt32 f)), .val (.int (Nat.toInt32 (f + N))), .val (.ref b1), .val (.int (Nat.toInt32 (f + N / 4 * 4))), .val (.int ((Nat.toInt32 f) + (4 : Int32))), .unset, .unset] []))
    refine zq_go (fun _ kq => XS.iload X6.here hx rfl (hb hby zq_d3_31) rfl kq) ?_
    show zq_Go p e below s _ _ _ (T6.setTop (mkF m 33 #[.val (.ref a), .val (.ref ar), .val (.int (Nat.toInt32 f)), .val (.int (Nat.toInt32 (f + N))), .val (.ref b1), .val (.int (Nat.toInt32 (f + N / 4 * 4))), .val (.int ((Nat.toInt32 f) + (4 : Int32))), .unset, .unset] [(.int ((Nat.toInt32 f) + (4 : Int32)))]))
    refine zq_go (fun _ kq => XS.iload X6.here hx rfl (hb hby zq_d3_33) rfl kq) ?_
    show zq_Go p e below s _ _ _ (T6.setTop (mkF m 35 #[.val (.ref a), .val (.ref ar), .val (.int (Nat.toInt32 f)), .val (.int (Nat.toInt32 (f + N))), .val (.ref b1), .val (.int (Nat.toInt32 (f + N / 4 * 4))), .val (.int ((Nat.toInt32 f) + (4 : Int32))), .unset, .unset] [(.int (Nat.toInt32 (f + N / 4 * 4))), (.int ((Nat.toInt32 f) + (4 : Int32)))]))
    refine zq_go (fun _ kq => XS.icmpYes X6.here hx rfl (pc0 := 35) (pc' := 87) rfl (hb hby zq_d3_35) rfl (flt (fun q => absurd ((zq_lt (i := f + 4) (n := f + N / 4 * 4) (by omega) (by omega)).mp (by rw [← zq_add (i := f) (j := 4) (by omega)]; exact q)) (by omega) : ¬ (((Nat.toInt32 f) + (4 : Int32)) < (Nat.toInt32 (f + N / 4 * 4))))).2.1 (by decide) (by decide) kq) ?_
    show zq_Go p e below s _ _ _ (T6.setTop (mkF m 87 #[.val (.ref a), .val (.ref ar), .val (.int (Nat.toInt32 f)), .val (.int (Nat.toInt32 (f + N))), .val (.ref b1), .val (.int (Nat.toInt32 (f + N / 4 * 4))), .val (.int ((Nat.toInt32 f) + (4 : Int32))), .unset, .unset] []))
    exact J87 (t6.1, t6.2.1, t6.2.2.1, t6.2.2.2) _ _ _ _ X6 rfl NF ZS KP E_b1 F_v0_b1 F_v1_b1 F_v2_b1 F_v3_b1 A_ar (by unfold zq_ov; rw [if_pos hN4]; subst ht6; rfl)
  show zq_Go p e below s _ _ _ (T4.setTop (mkF m 31 #[.val (.ref a), .val (.ref ar), .val (.int (Nat.toInt32 f)), .val (.int (Nat.toInt32 (f + N))), .val (.ref b1), .val (.int (Nat.toInt32 (f + N / 4 * 4))), .val (.int (Nat.toInt32 f)), .unset, .unset] []))
  refine zq_go (fun _ kq => XS.iload X4.here hx rfl (hb hby zq_d3_31) rfl kq) ?_
  show zq_Go p e below s _ _ _ (T4.setTop (mkF m 33 #[.val (.ref a), .val (.ref ar), .val (.int (Nat.toInt32 f)), .val (.int (Nat.toInt32 (f + N))), .val (.ref b1), .val (.int (Nat.toInt32 (f + N / 4 * 4))), .val (.int (Nat.toInt32 f)), .unset, .unset] [(.int (Nat.toInt32 f))]))
  refine zq_go (fun _ kq => XS.iload X4.here hx rfl (hb hby zq_d3_33) rfl kq) ?_
  show zq_Go p e below s _ _ _ (T4.setTop (mkF m 35 #[.val (.ref a), .val (.ref ar), .val (.int (Nat.toInt32 f)), .val (.int (Nat.toInt32 (f + N))), .val (.ref b1), .val (.int (Nat.toInt32 (f + N / 4 * 4))), .val (.int (Nat.toInt32 f)), .unset, .unset] [(.int (Nat.toInt32 (f + N / 4 * 4))), (.int (Nat.toInt32 f))]))
  refine zq_go (fun _ kq => XS.icmpYes X4.here hx rfl (pc0 := 35) (pc' := 87) rfl (hb hby zq_d3_35) rfl (flt (fun q => absurd ((zq_lt (by omega) (by omega)).mp q) (by omega) : ¬ ((Nat.toInt32 f) < (Nat.toInt32 (f + N / 4 * 4))))).2.1 (by decide) (by decide) kq) ?_
  show zq_Go p e below s _ _ _ (T4.setTop (mkF m 87 #[.val (.ref a), .val (.ref ar), .val (.int (Nat.toInt32 f)), .val (.int (Nat.toInt32 (f + N))), .val (.ref b1), .val (.int (Nat.toInt32 (f + N / 4 * 4))), .val (.int (Nat.toInt32 f)), .unset, .unset] []))
  exact J87 ((zq_iv k0 k1).1, (zq_iv k0 k1).2.1, (zq_iv k0 k1).2.2.1, (zq_iv k0 k1).2.2.2) _ _ _ _ X4 rfl NF ZS KP E_b1 F_v0_b1 F_v1_b1 F_v2_b1 F_v3_b1 A_ar (by unfold zq_ov; rw [if_neg hN4] <;> rfl)
theorem zq_d13_0 : decode method_8_code 0 = .ok (.aload_n 0, 1) := by decide +kernel
theorem zq_d13_1 : decode method_8_code 1 = .ok (.iconst 0, 1) := by decide +kernel
theorem zq_d13_2 : decode method_8_code 2 = .ok (.dup2, 1) := by decide +kernel
theorem zq_d13_3 : decode method_8_code 3 = .ok (.laload, 1) := by decide +kernel
theorem zq_d13_4 : decode method_8_code 4 = .ok (.aload_n 0, 1) := by decide +kernel
theorem zq_d13_5 : decode method_8_code 5 = .ok (.iconst 1, 1) := by decide +kernel
theorem zq_d13_6 : decode method_8_code 6 = .ok (.laload, 1) := by decide +kernel
theorem zq_d13_7 : decode method_8_code 7 = .ok (.ladd, 1) := by decide +kernel
theorem zq_d13_8 : decode method_8_code 8 = .ok (.lastore, 1) := by decide +kernel
theorem zq_d13_9 : decode method_8_code 9 = .ok (.aload_n 0, 1) := by decide +kernel
theorem zq_d13_10 : decode method_8_code 10 = .ok (.iconst 1, 1) := by decide +kernel
theorem zq_d13_11 : decode method_8_code 11 = .ok (.aload_n 0, 1) := by decide +kernel
theorem zq_d13_12 : decode method_8_code 12 = .ok (.iconst 1, 1) := by decide +kernel
theorem zq_d13_13 : decode method_8_code 13 = .ok (.laload, 1) := by decide +kernel
theorem zq_d13_14 : decode method_8_code 14 = .ok (.bipush 13, 2) := by decide +kernel
theorem zq_d13_16 : decode method_8_code 16 = .ok (.invokestatic 47, 3) := by decide +kernel
theorem zq_d13_19 : decode method_8_code 19 = .ok (.lastore, 1) := by decide +kernel
theorem zq_d13_20 : decode method_8_code 20 = .ok (.aload_n 0, 1) := by decide +kernel
theorem zq_d13_21 : decode method_8_code 21 = .ok (.iconst 1, 1) := by decide +kernel
theorem zq_d13_22 : decode method_8_code 22 = .ok (.dup2, 1) := by decide +kernel
theorem zq_d13_23 : decode method_8_code 23 = .ok (.laload, 1) := by decide +kernel
theorem zq_d13_24 : decode method_8_code 24 = .ok (.aload_n 0, 1) := by decide +kernel
theorem zq_d13_25 : decode method_8_code 25 = .ok (.iconst 0, 1) := by decide +kernel
theorem zq_d13_26 : decode method_8_code 26 = .ok (.laload, 1) := by decide +kernel
theorem zq_d13_27 : decode method_8_code 27 = .ok (.lxor, 1) := by decide +kernel
theorem zq_d13_28 : decode method_8_code 28 = .ok (.lastore, 1) := by decide +kernel
theorem zq_d13_29 : decode method_8_code 29 = .ok (.aload_n 0, 1) := by decide +kernel
theorem zq_d13_30 : decode method_8_code 30 = .ok (.iconst 0, 1) := by decide +kernel
theorem zq_d13_31 : decode method_8_code 31 = .ok (.aload_n 0, 1) := by decide +kernel
theorem zq_d13_32 : decode method_8_code 32 = .ok (.iconst 0, 1) := by decide +kernel
theorem zq_d13_33 : decode method_8_code 33 = .ok (.laload, 1) := by decide +kernel
theorem zq_d13_34 : decode method_8_code 34 = .ok (.bipush 32, 2) := by decide +kernel
theorem zq_d13_36 : decode method_8_code 36 = .ok (.invokestatic 47, 3) := by decide +kernel
theorem zq_d13_39 : decode method_8_code 39 = .ok (.lastore, 1) := by decide +kernel
theorem zq_d13_40 : decode method_8_code 40 = .ok (.aload_n 0, 1) := by decide +kernel
theorem zq_d13_41 : decode method_8_code 41 = .ok (.iconst 2, 1) := by decide +kernel
theorem zq_d13_42 : decode method_8_code 42 = .ok (.dup2, 1) := by decide +kernel
theorem zq_d13_43 : decode method_8_code 43 = .ok (.laload, 1) := by decide +kernel
theorem zq_d13_44 : decode method_8_code 44 = .ok (.aload_n 0, 1) := by decide +kernel
theorem zq_d13_45 : decode method_8_code 45 = .ok (.iconst 3, 1) := by decide +kernel
theorem zq_d13_46 : decode method_8_code 46 = .ok (.laload, 1) := by decide +kernel
theorem zq_d13_47 : decode method_8_code 47 = .ok (.ladd, 1) := by decide +kernel
theorem zq_d13_48 : decode method_8_code 48 = .ok (.lastore, 1) := by decide +kernel
theorem zq_d13_49 : decode method_8_code 49 = .ok (.aload_n 0, 1) := by decide +kernel
theorem zq_d13_50 : decode method_8_code 50 = .ok (.iconst 3, 1) := by decide +kernel
theorem zq_d13_51 : decode method_8_code 51 = .ok (.aload_n 0, 1) := by decide +kernel
theorem zq_d13_52 : decode method_8_code 52 = .ok (.iconst 3, 1) := by decide +kernel
theorem zq_d13_53 : decode method_8_code 53 = .ok (.laload, 1) := by decide +kernel
theorem zq_d13_54 : decode method_8_code 54 = .ok (.bipush 16, 2) := by decide +kernel
theorem zq_d13_56 : decode method_8_code 56 = .ok (.invokestatic 47, 3) := by decide +kernel
theorem zq_d13_59 : decode method_8_code 59 = .ok (.lastore, 1) := by decide +kernel
theorem zq_d13_60 : decode method_8_code 60 = .ok (.aload_n 0, 1) := by decide +kernel
theorem zq_d13_61 : decode method_8_code 61 = .ok (.iconst 3, 1) := by decide +kernel
theorem zq_d13_62 : decode method_8_code 62 = .ok (.dup2, 1) := by decide +kernel
theorem zq_d13_63 : decode method_8_code 63 = .ok (.laload, 1) := by decide +kernel
theorem zq_d13_64 : decode method_8_code 64 = .ok (.aload_n 0, 1) := by decide +kernel
theorem zq_d13_65 : decode method_8_code 65 = .ok (.iconst 2, 1) := by decide +kernel
theorem zq_d13_66 : decode method_8_code 66 = .ok (.laload, 1) := by decide +kernel
theorem zq_d13_67 : decode method_8_code 67 = .ok (.lxor, 1) := by decide +kernel
theorem zq_d13_68 : decode method_8_code 68 = .ok (.lastore, 1) := by decide +kernel
theorem zq_d13_69 : decode method_8_code 69 = .ok (.aload_n 0, 1) := by decide +kernel
theorem zq_d13_70 : decode method_8_code 70 = .ok (.iconst 0, 1) := by decide +kernel
theorem zq_d13_71 : decode method_8_code 71 = .ok (.dup2, 1) := by decide +kernel
theorem zq_d13_72 : decode method_8_code 72 = .ok (.laload, 1) := by decide +kernel
theorem zq_d13_73 : decode method_8_code 73 = .ok (.aload_n 0, 1) := by decide +kernel
theorem zq_d13_74 : decode method_8_code 74 = .ok (.iconst 3, 1) := by decide +kernel
theorem zq_d13_75 : decode method_8_code 75 = .ok (.laload, 1) := by decide +kernel
theorem zq_d13_76 : decode method_8_code 76 = .ok (.ladd, 1) := by decide +kernel
theorem zq_d13_77 : decode method_8_code 77 = .ok (.lastore, 1) := by decide +kernel
theorem zq_d13_78 : decode method_8_code 78 = .ok (.aload_n 0, 1) := by decide +kernel
theorem zq_d13_79 : decode method_8_code 79 = .ok (.iconst 3, 1) := by decide +kernel
theorem zq_d13_80 : decode method_8_code 80 = .ok (.aload_n 0, 1) := by decide +kernel
theorem zq_d13_81 : decode method_8_code 81 = .ok (.iconst 3, 1) := by decide +kernel
theorem zq_d13_82 : decode method_8_code 82 = .ok (.laload, 1) := by decide +kernel
theorem zq_d13_83 : decode method_8_code 83 = .ok (.bipush 21, 2) := by decide +kernel
theorem zq_d13_85 : decode method_8_code 85 = .ok (.invokestatic 47, 3) := by decide +kernel
theorem zq_d13_88 : decode method_8_code 88 = .ok (.lastore, 1) := by decide +kernel
theorem zq_d13_89 : decode method_8_code 89 = .ok (.aload_n 0, 1) := by decide +kernel
theorem zq_d13_90 : decode method_8_code 90 = .ok (.iconst 3, 1) := by decide +kernel
theorem zq_d13_91 : decode method_8_code 91 = .ok (.dup2, 1) := by decide +kernel
theorem zq_d13_92 : decode method_8_code 92 = .ok (.laload, 1) := by decide +kernel
theorem zq_d13_93 : decode method_8_code 93 = .ok (.aload_n 0, 1) := by decide +kernel
theorem zq_d13_94 : decode method_8_code 94 = .ok (.iconst 0, 1) := by decide +kernel
theorem zq_d13_95 : decode method_8_code 95 = .ok (.laload, 1) := by decide +kernel
theorem zq_d13_96 : decode method_8_code 96 = .ok (.lxor, 1) := by decide +kernel
theorem zq_d13_97 : decode method_8_code 97 = .ok (.lastore, 1) := by decide +kernel
theorem zq_d13_98 : decode method_8_code 98 = .ok (.aload_n 0, 1) := by decide +kernel
theorem zq_d13_99 : decode method_8_code 99 = .ok (.iconst 2, 1) := by decide +kernel
theorem zq_d13_100 : decode method_8_code 100 = .ok (.dup2, 1) := by decide +kernel
theorem zq_d13_101 : decode method_8_code 101 = .ok (.laload, 1) := by decide +kernel
theorem zq_d13_102 : decode method_8_code 102 = .ok (.aload_n 0, 1) := by decide +kernel
theorem zq_d13_103 : decode method_8_code 103 = .ok (.iconst 1, 1) := by decide +kernel
theorem zq_d13_104 : decode method_8_code 104 = .ok (.laload, 1) := by decide +kernel
theorem zq_d13_105 : decode method_8_code 105 = .ok (.ladd, 1) := by decide +kernel
theorem zq_d13_106 : decode method_8_code 106 = .ok (.lastore, 1) := by decide +kernel
theorem zq_d13_107 : decode method_8_code 107 = .ok (.aload_n 0, 1) := by decide +kernel
theorem zq_d13_108 : decode method_8_code 108 = .ok (.iconst 1, 1) := by decide +kernel
theorem zq_d13_109 : decode method_8_code 109 = .ok (.aload_n 0, 1) := by decide +kernel
theorem zq_d13_110 : decode method_8_code 110 = .ok (.iconst 1, 1) := by decide +kernel
theorem zq_d13_111 : decode method_8_code 111 = .ok (.laload, 1) := by decide +kernel
theorem zq_d13_112 : decode method_8_code 112 = .ok (.bipush 17, 2) := by decide +kernel
theorem zq_d13_114 : decode method_8_code 114 = .ok (.invokestatic 47, 3) := by decide +kernel
theorem zq_d13_117 : decode method_8_code 117 = .ok (.lastore, 1) := by decide +kernel
theorem zq_d13_118 : decode method_8_code 118 = .ok (.aload_n 0, 1) := by decide +kernel
theorem zq_d13_119 : decode method_8_code 119 = .ok (.iconst 1, 1) := by decide +kernel
theorem zq_d13_120 : decode method_8_code 120 = .ok (.dup2, 1) := by decide +kernel
theorem zq_d13_121 : decode method_8_code 121 = .ok (.laload, 1) := by decide +kernel
theorem zq_d13_122 : decode method_8_code 122 = .ok (.aload_n 0, 1) := by decide +kernel
theorem zq_d13_123 : decode method_8_code 123 = .ok (.iconst 2, 1) := by decide +kernel
theorem zq_d13_124 : decode method_8_code 124 = .ok (.laload, 1) := by decide +kernel
theorem zq_d13_125 : decode method_8_code 125 = .ok (.lxor, 1) := by decide +kernel
theorem zq_d13_126 : decode method_8_code 126 = .ok (.lastore, 1) := by decide +kernel
theorem zq_d13_127 : decode method_8_code 127 = .ok (.aload_n 0, 1) := by decide +kernel
theorem zq_d13_128 : decode method_8_code 128 = .ok (.iconst 2, 1) := by decide +kernel
theorem zq_d13_129 : decode method_8_code 129 = .ok (.aload_n 0, 1) := by decide +kernel
theorem zq_d13_130 : decode method_8_code 130 = .ok (.iconst 2, 1) := by decide +kernel
theorem zq_d13_131 : decode method_8_code 131 = .ok (.laload, 1) := by decide +kernel
theorem zq_d13_132 : decode method_8_code 132 = .ok (.bipush 32, 2) := by decide +kernel
theorem zq_d13_134 : decode method_8_code 134 = .ok (.invokestatic 47, 3) := by decide +kernel
theorem zq_d13_137 : decode method_8_code 137 = .ok (.lastore, 1) := by decide +kernel
theorem zq_d13_138 : decode method_8_code 138 = .ok (.return_, 1) := by decide +kernel
theorem zq_ef13 (m : MethodId) (x0 : Addr) : entryFrame m #[(.ref x0)] 1 = mkF m 0 #[.val (.ref x0)] [] := by first | (simp [entryFrame, mkF, argsToLocals, Value.category]; done) | rfl
set_option maxRecDepth 65536 in
set_option maxHeartbeats 40000000 in
theorem zq_rmR (l : Launch) (Z : State) (a0 : Array Value) (hw : ∀ d ∈ tables_1, d.before a0 Z = true) (ws : List Jvm.Cond) (a : Addr) (h0 : Heap) (n0 : Nat) (v : zq_V) (A_a : zq_A Z h0 a .long 4 (fun k => .long (([v.1, v.2.1, v.2.2.1, v.2.2.2] : List Int64).getD k 0))) (g_a : n0 ≤ a) :
    zq_Met l Z (⟨"com/example/clearline/clearline/formats/TableHashOfPinLaw", "round", "([J)V"⟩ : MethodName) method_8_code 1 none ws ({ frames := 1, cells := 0, slots := 0, locals := 16 } : Room) #[(.ref a)] h0 (fun r h L => r = none ∧ Fr n0 L ∧ Keep h0 h [a] ∧ zq_A Z h a .long 4 (fun k => .long (([(zq_rd2 v).1, (zq_rd2 v).2.1, (zq_rd2 v).2.2.1, (zq_rd2 v).2.2.2] : List Int64).getD k 0))) := by
  refine zq_body (plainFor_of_name zq_pn1) ?_
  intro p e s m below meth c s₁ hx hZ hby hml hret hlk hown hnm X0 e0
  refine zq_go (fun _ kq => castTop (zq_ef13 m a) kq) ?_
  have NF := Fr.nil n0
  have KP := Keep.refl h0 [a]
  have ZS : 0 ≤ h0.size := Nat.zero_le _
  show zq_Go p e below s _ _ _ (s₁.setTop (mkF m 0 #[.val (.ref a)] []))
  refine zq_go (fun _ kq => XS.aloadN X0.here hx rfl (hb hby zq_d13_0) rfl rfl kq) ?_
  show zq_Go p e below s _ _ _ (s₁.setTop (mkF m 1 #[.val (.ref a)] [(.ref a)]))
  refine zq_go (fun _ kq => XS.iconst X0.here hx rfl (hb hby zq_d13_1) kq) ?_
  show zq_Go p e below s _ _ _ (s₁.setTop (mkF m 2 #[.val (.ref a)] [(.int (0 : Int32)), (.ref a)]))
  refine zq_go (fun _ kq => Jvm.Free.XT.dup2 X0.here hx rfl (hb hby zq_d13_2) rfl rfl rfl kq) ?_
  show zq_Go p e below s _ _ _ (s₁.setTop (mkF m 3 #[.val (.ref a)] [(.int (0 : Int32)), (.ref a), (.int (0 : Int32)), (.ref a)]))
  refine zq_go (zq_ldJ X0 hx hZ e0 A_a (j := (0 : Int32)) (i := 0) (by decide) (by decide) (by decide) (g := (mkF m 3 #[.val (.ref a)] [(.int (0 : Int32)), (.ref a), (.int (0 : Int32)), (.ref a)])) rfl rfl (hb hby zq_d13_3)) ?_
  show zq_Go p e below s _ _ _ (s₁.setTop (mkF m 4 #[.val (.ref a)] [(.long v.1), (.int (0 : Int32)), (.ref a)]))
  refine zq_go (fun _ kq => XS.aloadN X0.here hx rfl (hb hby zq_d13_4) rfl rfl kq) ?_
  show zq_Go p e below s _ _ _ (s₁.setTop (mkF m 5 #[.val (.ref a)] [(.ref a), (.long v.1), (.int (0 : Int32)), (.ref a)]))
  refine zq_go (fun _ kq => XS.iconst X0.here hx rfl (hb hby zq_d13_5) kq) ?_
  show zq_Go p e below s _ _ _ (s₁.setTop (mkF m 6 #[.val (.ref a)] [(.int (1 : Int32)), (.ref a), (.long v.1), (.int (0 : Int32)), (.ref a)]))
  refine zq_go (zq_ldJ X0 hx hZ e0 A_a (j := (1 : Int32)) (i := 1) (by decide) (by decide) (by decide) (g := (mkF m 6 #[.val (.ref a)] [(.int (1 : Int32)), (.ref a), (.long v.1), (.int (0 : Int32)), (.ref a)])) rfl rfl (hb hby zq_d13_6)) ?_
  show zq_Go p e below s _ _ _ (s₁.setTop (mkF m 7 #[.val (.ref a)] [(.long v.2.1), (.long v.1), (.int (0 : Int32)), (.ref a)]))
  refine zq_go (fun _ kq => XS.ladd X0.here hx rfl (hb hby zq_d13_7) rfl kq) ?_
  show zq_Go p e below s _ _ _ (s₁.setTop (mkF m 8 #[.val (.ref a)] [(.long (v.1 + v.2.1)), (.int (0 : Int32)), (.ref a)]))
  obtain ⟨T1, h1, X1, e1, W1, A_a, st1⟩ := zq_stJ X0 hx hZ e0 A_a (j := (0 : Int32)) (i := 0) (by decide) (by decide) (by decide) (g := (mkF m 8 #[.val (.ref a)] [(.long (v.1 + v.2.1)), (.int (0 : Int32)), (.ref a)])) rfl rfl (hb hby zq_d13_8)
  refine zq_go st1 ?_
  have ZS := Nat.le_trans ZS (Keep.of_wr W1).1
  have KP := KP.wr W1 (Or.inl (by simp))
  have A_a : zq_A Z h1 a .long 4 (fun k => .long (([(v.1 + v.2.1), v.2.1, v.2.2.1, v.2.2.2] : List Int64).getD k 0)) := A_a.congr (fun j hj => by match j, hj with | 0, _ => rfl | 1, _ => rfl | 2, _ => rfl | 3, _ => rfl | (j + 4), hj => exact absurd hj (by omega))
  obtain ⟨L1, X1, NF⟩ : ∃ L : List Loc, Stand p l e ({ frames := 1, cells := 0, slots := 0, locals := 16 } : Room) s m #[(.ref a)] below meth c T1 L 0 0 ∧ Fr n0 L := ⟨_, X1, Fr.snoc X1 NF g_a⟩
  show zq_Go p e below s _ _ _ (T1.setTop (mkF m 9 #[.val (.ref a)] []))
  refine zq_go (fun _ kq => XS.aloadN X1.here hx rfl (hb hby zq_d13_9) rfl rfl kq) ?_
  show zq_Go p e below s _ _ _ (T1.setTop (mkF m 10 #[.val (.ref a)] [(.ref a)]))
  refine zq_go (fun _ kq => XS.iconst X1.here hx rfl (hb hby zq_d13_10) kq) ?_
  show zq_Go p e below s _ _ _ (T1.setTop (mkF m 11 #[.val (.ref a)] [(.int (1 : Int32)), (.ref a)]))
  refine zq_go (fun _ kq => XS.aloadN X1.here hx rfl (hb hby zq_d13_11) rfl rfl kq) ?_
  show zq_Go p e below s _ _ _ (T1.setTop (mkF m 12 #[.val (.ref a)] [(.ref a), (.int (1 : Int32)), (.ref a)]))
  refine zq_go (fun _ kq => XS.iconst X1.here hx rfl (hb hby zq_d13_12) kq) ?_
  show zq_Go p e below s _ _ _ (T1.setTop (mkF m 13 #[.val (.ref a)] [(.int (1 : Int32)), (.ref a), (.int (1 : Int32)), (.ref a)]))
  refine zq_go (zq_ldJ X1 hx hZ e1 A_a (j := (1 : Int32)) (i := 1) (by decide) (by decide) (by decide) (g := (mkF m 13 #[.val (.ref a)] [(.int (1 : Int32)), (.ref a), (.int (1 : Int32)), (.ref a)])) rfl rfl (hb hby zq_d13_13)) ?_
  show zq_Go p e below s _ _ _ (T1.setTop (mkF m 14 #[.val (.ref a)] [(.long v.2.1), (.int (1 : Int32)), (.ref a)]))
  refine zq_go (fun _ kq => XS.bipush X1.here hx rfl (hb hby zq_d13_14) kq) ?_
  show zq_Go p e below s _ _ _ (T1.setTop (mkF m 16 #[.val (.ref a)] [(.int (13 : Int32)), (.long v.2.1), (.int (1 : Int32)), (.ref a)]))
  obtain ⟨T2, X2, e2, st2⟩ := zq_callP (W := 2) X1 hx hZ hown (hw _ (List.mem_of_getElem? (i := 78) rfl)) (hw _ (List.mem_of_getElem? (i := 79) rfl)) (hw _ (List.mem_of_getElem? (i := 59) rfl)) (hw _ (List.mem_of_getElem? (i := 80) rfl)) (by decide) (zq_rmL2 l Z a0 hw [] v.2.1 (13 : Int32) h1) e1 (by decide) (by decide) rfl rfl (by decide) (by decide) (g := (mkF m 16 #[.val (.ref a)] [(.int (13 : Int32)), (.long v.2.1), (.int (1 : Int32)), (.ref a)])) rfl (by rw [hml]; rfl) (argsL := [(.long v.2.1), (.int (13 : Int32))]) (rest := [(.int (1 : Int32)), (.ref a)]) (lenOf zq_pd3 rfl) rfl (by show 2 * 0 + _ ≤ _; exact Nat.le_of_eq rfl) (hb hby zq_d13_16)
  refine zq_go st2 ?_
  show zq_Go p e below s _ _ _ (T2.setTop (mkF m 19 #[.val (.ref a)] [(.long (zq_rl2 v.2.1 (13 : Int32))), (.int (1 : Int32)), (.ref a)]))
  obtain ⟨T3, h3, X3, e3, W3, A_a, st3⟩ := zq_stJ X2 hx hZ e2 A_a (j := (1 : Int32)) (i := 1) (by decide) (by decide) (by decide) (g := (mkF m 19 #[.val (.ref a)] [(.long (zq_rl2 v.2.1 (13 : Int32))), (.int (1 : Int32)), (.ref a)])) rfl rfl (hb hby zq_d13_19)
  refine zq_go st3 ?_
  have ZS := Nat.le_trans ZS (Keep.of_wr W3).1
  have KP := KP.wr W3 (Or.inl (by simp))
  have A_a : zq_A Z h3 a .long 4 (fun k => .long (([(v.1 + v.2.1), (zq_rl2 v.2.1 (13 : Int32)), v.2.2.1, v.2.2.2] : List Int64).getD k 0)) := A_a.congr (fun j hj => by match j, hj with | 0, _ => rfl | 1, _ => rfl | 2, _ => rfl | 3, _ => rfl | (j + 4), hj => exact absurd hj (by omega))
  obtain ⟨L3, X3, NF⟩ : ∃ L : List Loc, Stand p l e ({ frames := 1, cells := 0, slots := 0, locals := 16 } : Room) s m #[(.ref a)] below meth c T3 L 0 0 ∧ Fr n0 L := ⟨_, X3, Fr.snoc X3 NF g_a⟩
  show zq_Go p e below s _ _ _ (T3.setTop (mkF m 20 #[.val (.ref a)] []))
  refine zq_go (fun _ kq => XS.aloadN X3.here hx rfl (hb hby zq_d13_20) rfl rfl kq) ?_
  show zq_Go p e below s _ _ _ (T3.setTop (mkF m 21 #[.val (.ref a)] [(.ref a)]))
  refine zq_go (fun _ kq => XS.iconst X3.here hx rfl (hb hby zq_d13_21) kq) ?_
  show zq_Go p e below s _ _ _ (T3.setTop (mkF m 22 #[.val (.ref a)] [(.int (1 : Int32)), (.ref a)]))
  refine zq_go (fun _ kq => Jvm.Free.XT.dup2 X3.here hx rfl (hb hby zq_d13_22) rfl rfl rfl kq) ?_
  show zq_Go p e below s _ _ _ (T3.setTop (mkF m 23 #[.val (.ref a)] [(.int (1 : Int32)), (.ref a), (.int (1 : Int32)), (.ref a)]))
  refine zq_go (zq_ldJ X3 hx hZ e3 A_a (j := (1 : Int32)) (i := 1) (by decide) (by decide) (by decide) (g := (mkF m 23 #[.val (.ref a)] [(.int (1 : Int32)), (.ref a), (.int (1 : Int32)), (.ref a)])) rfl rfl (hb hby zq_d13_23)) ?_
  show zq_Go p e below s _ _ _ (T3.setTop (mkF m 24 #[.val (.ref a)] [(.long (zq_rl2 v.2.1 (13 : Int32))), (.int (1 : Int32)), (.ref a)]))
  refine zq_go (fun _ kq => XS.aloadN X3.here hx rfl (hb hby zq_d13_24) rfl rfl kq) ?_
  show zq_Go p e below s _ _ _ (T3.setTop (mkF m 25 #[.val (.ref a)] [(.ref a), (.long (zq_rl2 v.2.1 (13 : Int32))), (.int (1 : Int32)), (.ref a)]))
  refine zq_go (fun _ kq => XS.iconst X3.here hx rfl (hb hby zq_d13_25) kq) ?_
  show zq_Go p e below s _ _ _ (T3.setTop (mkF m 26 #[.val (.ref a)] [(.int (0 : Int32)), (.ref a), (.long (zq_rl2 v.2.1 (13 : Int32))), (.int (1 : Int32)), (.ref a)]))
  refine zq_go (zq_ldJ X3 hx hZ e3 A_a (j := (0 : Int32)) (i := 0) (by decide) (by decide) (by decide) (g := (mkF m 26 #[.val (.ref a)] [(.int (0 : Int32)), (.ref a), (.long (zq_rl2 v.2.1 (13 : Int32))), (.int (1 : Int32)), (.ref a)])) rfl rfl (hb hby zq_d13_26)) ?_
  show zq_Go p e below s _ _ _ (T3.setTop (mkF m 27 #[.val (.ref a)] [(.long (v.1 + v.2.1)), (.long (zq_rl2 v.2.1 (13 : Int32))), (.int (1 : Int32)), (.ref a)]))
  refine zq_go (fun _ kq => XS.lxor X3.here hx rfl (hb hby zq_d13_27) rfl kq) ?_
  show zq_Go p e below s _ _ _ (T3.setTop (mkF m 28 #[.val (.ref a)] [(.long ((zq_rl2 v.2.1 (13 : Int32)) ^^^ (v.1 + v.2.1))), (.int (1 : Int32)), (.ref a)]))
  obtain ⟨T4, h4, X4, e4, W4, A_a, st4⟩ := zq_stJ X3 hx hZ e3 A_a (j := (1 : Int32)) (i := 1) (by decide) (by decide) (by decide) (g := (mkF m 28 #[.val (.ref a)] [(.long ((zq_rl2 v.2.1 (13 : Int32)) ^^^ (v.1 + v.2.1))), (.int (1 : Int32)), (.ref a)])) rfl rfl (hb hby zq_d13_28)
  refine zq_go st4 ?_
  have ZS := Nat.le_trans ZS (Keep.of_wr W4).1
  have KP := KP.wr W4 (Or.inl (by simp))
  have A_a : zq_A Z h4 a .long 4 (fun k => .long (([(v.1 + v.2.1), ((zq_rl2 v.2.1 (13 : Int32)) ^^^ (v.1 + v.2.1)), v.2.2.1, v.2.2.2] : List Int64).getD k 0)) := A_a.congr (fun j hj => by match j, hj with | 0, _ => rfl | 1, _ => rfl | 2, _ => rfl | 3, _ => rfl | (j + 4), hj => exact absurd hj (by omega))
  obtain ⟨L4, X4, NF⟩ : ∃ L : List Loc, Stand p l e ({ frames := 1, cells := 0, slots := 0, locals := 16 } : Room) s m #[(.ref a)] below meth c T4 L 0 0 ∧ Fr n0 L := ⟨_, X4, Fr.snoc X4 NF g_a⟩
  show zq_Go p e below s _ _ _ (T4.setTop (mkF m 29 #[.val (.ref a)] []))
  refine zq_go (fun _ kq => XS.aloadN X4.here hx rfl (hb hby zq_d13_29) rfl rfl kq) ?_
  show zq_Go p e below s _ _ _ (T4.setTop (mkF m 30 #[.val (.ref a)] [(.ref a)]))
  refine zq_go (fun _ kq => XS.iconst X4.here hx rfl (hb hby zq_d13_30) kq) ?_
  show zq_Go p e below s _ _ _ (T4.setTop (mkF m 31 #[.val (.ref a)] [(.int (0 : Int32)), (.ref a)]))
  refine zq_go (fun _ kq => XS.aloadN X4.here hx rfl (hb hby zq_d13_31) rfl rfl kq) ?_
  show zq_Go p e below s _ _ _ (T4.setTop (mkF m 32 #[.val (.ref a)] [(.ref a), (.int (0 : Int32)), (.ref a)]))
  refine zq_go (fun _ kq => XS.iconst X4.here hx rfl (hb hby zq_d13_32) kq) ?_
  show zq_Go p e below s _ _ _ (T4.setTop (mkF m 33 #[.val (.ref a)] [(.int (0 : Int32)), (.ref a), (.int (0 : Int32)), (.ref a)]))
  refine zq_go (zq_ldJ X4 hx hZ e4 A_a (j := (0 : Int32)) (i := 0) (by decide) (by decide) (by decide) (g := (mkF m 33 #[.val (.ref a)] [(.int (0 : Int32)), (.ref a), (.int (0 : Int32)), (.ref a)])) rfl rfl (hb hby zq_d13_33)) ?_
  show zq_Go p e below s _ _ _ (T4.setTop (mkF m 34 #[.val (.ref a)] [(.long (v.1 + v.2.1)), (.int (0 : Int32)), (.ref a)]))
  refine zq_go (fun _ kq => XS.bipush X4.here hx rfl (hb hby zq_d13_34) kq) ?_
  show zq_Go p e below s _ _ _ (T4.setTop (mkF m 36 #[.val (.ref a)] [(.int (32 : Int32)), (.long (v.1 + v.2.1)), (.int (0 : Int32)), (.ref a)]))
  obtain ⟨T5, X5, e5, st5⟩ := zq_callP (W := 2) X4 hx hZ hown (hw _ (List.mem_of_getElem? (i := 78) rfl)) (hw _ (List.mem_of_getElem? (i := 79) rfl)) (hw _ (List.mem_of_getElem? (i := 59) rfl)) (hw _ (List.mem_of_getElem? (i := 80) rfl)) (by decide) (zq_rmL2 l Z a0 hw [] (v.1 + v.2.1) (32 : Int32) h4) e4 (by decide) (by decide) rfl rfl (by decide) (by decide) (g := (mkF m 36 #[.val (.ref a)] [(.int (32 : Int32)), (.long (v.1 + v.2.1)), (.int (0 : Int32)), (.ref a)])) rfl (by rw [hml]; rfl) (argsL := [(.long (v.1 + v.2.1)), (.int (32 : Int32))]) (rest := [(.int (0 : Int32)), (.ref a)]) (lenOf zq_pd3 rfl) rfl (by show 2 * 0 + _ ≤ _; exact Nat.le_of_eq rfl) (hb hby zq_d13_36)
  refine zq_go st5 ?_
  show zq_Go p e below s _ _ _ (T5.setTop (mkF m 39 #[.val (.ref a)] [(.long (zq_rl2 (v.1 + v.2.1) (32 : Int32))), (.int (0 : Int32)), (.ref a)]))
  obtain ⟨T6, h6, X6, e6, W6, A_a, st6⟩ := zq_stJ X5 hx hZ e5 A_a (j := (0 : Int32)) (i := 0) (by decide) (by decide) (by decide) (g := (mkF m 39 #[.val (.ref a)] [(.long (zq_rl2 (v.1 + v.2.1) (32 : Int32))), (.int (0 : Int32)), (.ref a)])) rfl rfl (hb hby zq_d13_39)
  refine zq_go st6 ?_
  have ZS := Nat.le_trans ZS (Keep.of_wr W6).1
  have KP := KP.wr W6 (Or.inl (by simp))
  have A_a : zq_A Z h6 a .long 4 (fun k => .long (([(zq_rl2 (v.1 + v.2.1) (32 : Int32)), ((zq_rl2 v.2.1 (13 : Int32)) ^^^ (v.1 + v.2.1)), v.2.2.1, v.2.2.2] : List Int64).getD k 0)) := A_a.congr (fun j hj => by match j, hj with | 0, _ => rfl | 1, _ => rfl | 2, _ => rfl | 3, _ => rfl | (j + 4), hj => exact absurd hj (by omega))
  obtain ⟨L6, X6, NF⟩ : ∃ L : List Loc, Stand p l e ({ frames := 1, cells := 0, slots := 0, locals := 16 } : Room) s m #[(.ref a)] below meth c T6 L 0 0 ∧ Fr n0 L := ⟨_, X6, Fr.snoc X6 NF g_a⟩
  show zq_Go p e below s _ _ _ (T6.setTop (mkF m 40 #[.val (.ref a)] []))
  refine zq_go (fun _ kq => XS.aloadN X6.here hx rfl (hb hby zq_d13_40) rfl rfl kq) ?_
  show zq_Go p e below s _ _ _ (T6.setTop (mkF m 41 #[.val (.ref a)] [(.ref a)]))
  refine zq_go (fun _ kq => XS.iconst X6.here hx rfl (hb hby zq_d13_41) kq) ?_
  show zq_Go p e below s _ _ _ (T6.setTop (mkF m 42 #[.val (.ref a)] [(.int (2 : Int32)), (.ref a)]))
  refine zq_go (fun _ kq => Jvm.Free.XT.dup2 X6.here hx rfl (hb hby zq_d13_42) rfl rfl rfl kq) ?_
  show zq_Go p e below s _ _ _ (T6.setTop (mkF m 43 #[.val (.ref a)] [(.int (2 : Int32)), (.ref a), (.int (2 : Int32)), (.ref a)]))
  refine zq_go (zq_ldJ X6 hx hZ e6 A_a (j := (2 : Int32)) (i := 2) (by decide) (by decide) (by decide) (g := (mkF m 43 #[.val (.ref a)] [(.int (2 : Int32)), (.ref a), (.int (2 : Int32)), (.ref a)])) rfl rfl (hb hby zq_d13_43)) ?_
  show zq_Go p e below s _ _ _ (T6.setTop (mkF m 44 #[.val (.ref a)] [(.long v.2.2.1), (.int (2 : Int32)), (.ref a)]))
  refine zq_go (fun _ kq => XS.aloadN X6.here hx rfl (hb hby zq_d13_44) rfl rfl kq) ?_
  show zq_Go p e below s _ _ _ (T6.setTop (mkF m 45 #[.val (.ref a)] [(.ref a), (.long v.2.2.1), (.int (2 : Int32)), (.ref a)]))
  refine zq_go (fun _ kq => XS.iconst X6.here hx rfl (hb hby zq_d13_45) kq) ?_
  show zq_Go p e below s _ _ _ (T6.setTop (mkF m 46 #[.val (.ref a)] [(.int (3 : Int32)), (.ref a), (.long v.2.2.1), (.int (2 : Int32)), (.ref a)]))
  refine zq_go (zq_ldJ X6 hx hZ e6 A_a (j := (3 : Int32)) (i := 3) (by decide) (by decide) (by decide) (g := (mkF m 46 #[.val (.ref a)] [(.int (3 : Int32)), (.ref a), (.long v.2.2.1), (.int (2 : Int32)), (.ref a)])) rfl rfl (hb hby zq_d13_46)) ?_
  show zq_Go p e below s _ _ _ (T6.setTop (mkF m 47 #[.val (.ref a)] [(.long v.2.2.2), (.long v.2.2.1), (.int (2 : Int32)), (.ref a)]))
  refine zq_go (fun _ kq => XS.ladd X6.here hx rfl (hb hby zq_d13_47) rfl kq) ?_
  show zq_Go p e below s _ _ _ (T6.setTop (mkF m 48 #[.val (.ref a)] [(.long (v.2.2.1 + v.2.2.2)), (.int (2 : Int32)), (.ref a)]))
  obtain ⟨T7, h7, X7, e7, W7, A_a, st7⟩ := zq_stJ X6 hx hZ e6 A_a (j := (2 : Int32)) (i := 2) (by decide) (by decide) (by decide) (g := (mkF m 48 #[.val (.ref a)] [(.long (v.2.2.1 + v.2.2.2)), (.int (2 : Int32)), (.ref a)])) rfl rfl (hb hby zq_d13_48)
  refine zq_go st7 ?_
  have ZS := Nat.le_trans ZS (Keep.of_wr W7).1
  have KP := KP.wr W7 (Or.inl (by simp))
  have A_a : zq_A Z h7 a .long 4 (fun k => .long (([(zq_rl2 (v.1 + v.2.1) (32 : Int32)), ((zq_rl2 v.2.1 (13 : Int32)) ^^^ (v.1 + v.2.1)), (v.2.2.1 + v.2.2.2), v.2.2.2] : List Int64).getD k 0)) := A_a.congr (fun j hj => by match j, hj with | 0, _ => rfl | 1, _ => rfl | 2, _ => rfl | 3, _ => rfl | (j + 4), hj => exact absurd hj (by omega))
  obtain ⟨L7, X7, NF⟩ : ∃ L : List Loc, Stand p l e ({ frames := 1, cells := 0, slots := 0, locals := 16 } : Room) s m #[(.ref a)] below meth c T7 L 0 0 ∧ Fr n0 L := ⟨_, X7, Fr.snoc X7 NF g_a⟩
  show zq_Go p e below s _ _ _ (T7.setTop (mkF m 49 #[.val (.ref a)] []))
  refine zq_go (fun _ kq => XS.aloadN X7.here hx rfl (hb hby zq_d13_49) rfl rfl kq) ?_
  show zq_Go p e below s _ _ _ (T7.setTop (mkF m 50 #[.val (.ref a)] [(.ref a)]))
  refine zq_go (fun _ kq => XS.iconst X7.here hx rfl (hb hby zq_d13_50) kq) ?_
  show zq_Go p e below s _ _ _ (T7.setTop (mkF m 51 #[.val (.ref a)] [(.int (3 : Int32)), (.ref a)]))
  refine zq_go (fun _ kq => XS.aloadN X7.here hx rfl (hb hby zq_d13_51) rfl rfl kq) ?_
  show zq_Go p e below s _ _ _ (T7.setTop (mkF m 52 #[.val (.ref a)] [(.ref a), (.int (3 : Int32)), (.ref a)]))
  refine zq_go (fun _ kq => XS.iconst X7.here hx rfl (hb hby zq_d13_52) kq) ?_
  show zq_Go p e below s _ _ _ (T7.setTop (mkF m 53 #[.val (.ref a)] [(.int (3 : Int32)), (.ref a), (.int (3 : Int32)), (.ref a)]))
  refine zq_go (zq_ldJ X7 hx hZ e7 A_a (j := (3 : Int32)) (i := 3) (by decide) (by decide) (by decide) (g := (mkF m 53 #[.val (.ref a)] [(.int (3 : Int32)), (.ref a), (.int (3 : Int32)), (.ref a)])) rfl rfl (hb hby zq_d13_53)) ?_
  show zq_Go p e below s _ _ _ (T7.setTop (mkF m 54 #[.val (.ref a)] [(.long v.2.2.2), (.int (3 : Int32)), (.ref a)]))
  refine zq_go (fun _ kq => XS.bipush X7.here hx rfl (hb hby zq_d13_54) kq) ?_
  show zq_Go p e below s _ _ _ (T7.setTop (mkF m 56 #[.val (.ref a)] [(.int (16 : Int32)), (.long v.2.2.2), (.int (3 : Int32)), (.ref a)]))
  obtain ⟨T8, X8, e8, st8⟩ := zq_callP (W := 2) X7 hx hZ hown (hw _ (List.mem_of_getElem? (i := 78) rfl)) (hw _ (List.mem_of_getElem? (i := 79) rfl)) (hw _ (List.mem_of_getElem? (i := 59) rfl)) (hw _ (List.mem_of_getElem? (i := 80) rfl)) (by decide) (zq_rmL2 l Z a0 hw [] v.2.2.2 (16 : Int32) h7) e7 (by decide) (by decide) rfl rfl (by decide) (by decide) (g := (mkF m 56 #[.val (.ref a)] [(.int (16 : Int32)), (.long v.2.2.2), (.int (3 : Int32)), (.ref a)])) rfl (by rw [hml]; rfl) (argsL := [(.long v.2.2.2), (.int (16 : Int32))]) (rest := [(.int (3 : Int32)), (.ref a)]) (lenOf zq_pd3 rfl) rfl (by show 2 * 0 + _ ≤ _; exact Nat.le_of_eq rfl) (hb hby zq_d13_56)
  refine zq_go st8 ?_
  show zq_Go p e below s _ _ _ (T8.setTop (mkF m 59 #[.val (.ref a)] [(.long (zq_rl2 v.2.2.2 (16 : Int32))), (.int (3 : Int32)), (.ref a)]))
  obtain ⟨T9, h9, X9, e9, W9, A_a, st9⟩ := zq_stJ X8 hx hZ e8 A_a (j := (3 : Int32)) (i := 3) (by decide) (by decide) (by decide) (g := (mkF m 59 #[.val (.ref a)] [(.long (zq_rl2 v.2.2.2 (16 : Int32))), (.int (3 : Int32)), (.ref a)])) rfl rfl (hb hby zq_d13_59)
  refine zq_go st9 ?_
  have ZS := Nat.le_trans ZS (Keep.of_wr W9).1
  have KP := KP.wr W9 (Or.inl (by simp))
  have A_a : zq_A Z h9 a .long 4 (fun k => .long (([(zq_rl2 (v.1 + v.2.1) (32 : Int32)), ((zq_rl2 v.2.1 (13 : Int32)) ^^^ (v.1 + v.2.1)), (v.2.2.1 + v.2.2.2), (zq_rl2 v.2.2.2 (16 : Int32))] : List Int64).getD k 0)) := A_a.congr (fun j hj => by match j, hj with | 0, _ => rfl | 1, _ => rfl | 2, _ => rfl | 3, _ => rfl | (j + 4), hj => exact absurd hj (by omega))
  obtain ⟨L9, X9, NF⟩ : ∃ L : List Loc, Stand p l e ({ frames := 1, cells := 0, slots := 0, locals := 16 } : Room) s m #[(.ref a)] below meth c T9 L 0 0 ∧ Fr n0 L := ⟨_, X9, Fr.snoc X9 NF g_a⟩
  show zq_Go p e below s _ _ _ (T9.setTop (mkF m 60 #[.val (.ref a)] []))
  refine zq_go (fun _ kq => XS.aloadN X9.here hx rfl (hb hby zq_d13_60) rfl rfl kq) ?_
  show zq_Go p e below s _ _ _ (T9.setTop (mkF m 61 #[.val (.ref a)] [(.ref a)]))
  refine zq_go (fun _ kq => XS.iconst X9.here hx rfl (hb hby zq_d13_61) kq) ?_
  show zq_Go p e below s _ _ _ (T9.setTop (mkF m 62 #[.val (.ref a)] [(.int (3 : Int32)), (.ref a)]))
  refine zq_go (fun _ kq => Jvm.Free.XT.dup2 X9.here hx rfl (hb hby zq_d13_62) rfl rfl rfl kq) ?_
  show zq_Go p e below s _ _ _ (T9.setTop (mkF m 63 #[.val (.ref a)] [(.int (3 : Int32)), (.ref a), (.int (3 : Int32)), (.ref a)]))
  refine zq_go (zq_ldJ X9 hx hZ e9 A_a (j := (3 : Int32)) (i := 3) (by decide) (by decide) (by decide) (g := (mkF m 63 #[.val (.ref a)] [(.int (3 : Int32)), (.ref a), (.int (3 : Int32)), (.ref a)])) rfl rfl (hb hby zq_d13_63)) ?_
  show zq_Go p e below s _ _ _ (T9.setTop (mkF m 64 #[.val (.ref a)] [(.long (zq_rl2 v.2.2.2 (16 : Int32))), (.int (3 : Int32)), (.ref a)]))
  refine zq_go (fun _ kq => XS.aloadN X9.here hx rfl (hb hby zq_d13_64) rfl rfl kq) ?_
  show zq_Go p e below s _ _ _ (T9.setTop (mkF m 65 #[.val (.ref a)] [(.ref a), (.long (zq_rl2 v.2.2.2 (16 : Int32))), (.int (3 : Int32)), (.ref a)]))
  refine zq_go (fun _ kq => XS.iconst X9.here hx rfl (hb hby zq_d13_65) kq) ?_
  show zq_Go p e below s _ _ _ (T9.setTop (mkF m 66 #[.val (.ref a)] [(.int (2 : Int32)), (.ref a), (.long (zq_rl2 v.2.2.2 (16 : Int32))), (.int (3 : Int32)), (.ref a)]))
  refine zq_go (zq_ldJ X9 hx hZ e9 A_a (j := (2 : Int32)) (i := 2) (by decide) (by decide) (by decide) (g := (mkF m 66 #[.val (.ref a)] [(.int (2 : Int32)), (.ref a), (.long (zq_rl2 v.2.2.2 (16 : Int32))), (.int (3 : Int32)), (.ref a)])) rfl rfl (hb hby zq_d13_66)) ?_
  show zq_Go p e below s _ _ _ (T9.setTop (mkF m 67 #[.val (.ref a)] [(.long (v.2.2.1 + v.2.2.2)), (.long (zq_rl2 v.2.2.2 (16 : Int32))), (.int (3 : Int32)), (.ref a)]))
  refine zq_go (fun _ kq => XS.lxor X9.here hx rfl (hb hby zq_d13_67) rfl kq) ?_
  show zq_Go p e below s _ _ _ (T9.setTop (mkF m 68 #[.val (.ref a)] [(.long ((zq_rl2 v.2.2.2 (16 : Int32)) ^^^ (v.2.2.1 + v.2.2.2))), (.int (3 : Int32)), (.ref a)]))
  obtain ⟨T10, h10, X10, e10, W10, A_a, st10⟩ := zq_stJ X9 hx hZ e9 A_a (j := (3 : Int32)) (i := 3) (by decide) (by decide) (by decide) (g := (mkF m 68 #[.val (.ref a)] [(.long ((zq_rl2 v.2.2.2 (16 : Int32)) ^^^ (v.2.2.1 + v.2.2.2))), (.int (3 : Int32)), (.ref a)])) rfl rfl (hb hby zq_d13_68)
  refine zq_go st10 ?_
  have ZS := Nat.le_trans ZS (Keep.of_wr W10).1
  have KP := KP.wr W10 (Or.inl (by simp))
  have A_a : zq_A Z h10 a .long 4 (fun k => .long (([(zq_rl2 (v.1 + v.2.1) (32 : Int32)), ((zq_rl2 v.2.1 (13 : Int32)) ^^^ (v.1 + v.2.1)), (v.2.2.1 + v.2.2.2), ((zq_rl2 v.2.2.2 (16 : Int32)) ^^^ (v.2.2.1 + v.2.2.2))] : List Int64).getD k 0)) := A_a.congr (fun j hj => by match j, hj with | 0, _ => rfl | 1, _ => rfl | 2, _ => rfl | 3, _ => rfl | (j + 4), hj => exact absurd hj (by omega))
  obtain ⟨L10, X10, NF⟩ : ∃ L : List Loc, Stand p l e ({ frames := 1, cells := 0, slots := 0, locals := 16 } : Room) s m #[(.ref a)] below meth c T10 L 0 0 ∧ Fr n0 L := ⟨_, X10, Fr.snoc X10 NF g_a⟩
  show zq_Go p e below s _ _ _ (T10.setTop (mkF m 69 #[.val (.ref a)] []))
  refine zq_go (fun _ kq => XS.aloadN X10.here hx rfl (hb hby zq_d13_69) rfl rfl kq) ?_
  show zq_Go p e below s _ _ _ (T10.setTop (mkF m 70 #[.val (.ref a)] [(.ref a)]))
  refine zq_go (fun _ kq => XS.iconst X10.here hx rfl (hb hby zq_d13_70) kq) ?_
  show zq_Go p e below s _ _ _ (T10.setTop (mkF m 71 #[.val (.ref a)] [(.int (0 : Int32)), (.ref a)]))
  refine zq_go (fun _ kq => Jvm.Free.XT.dup2 X10.here hx rfl (hb hby zq_d13_71) rfl rfl rfl kq) ?_
  show zq_Go p e below s _ _ _ (T10.setTop (mkF m 72 #[.val (.ref a)] [(.int (0 : Int32)), (.ref a), (.int (0 : Int32)), (.ref a)]))
  refine zq_go (zq_ldJ X10 hx hZ e10 A_a (j := (0 : Int32)) (i := 0) (by decide) (by decide) (by decide) (g := (mkF m 72 #[.val (.ref a)] [(.int (0 : Int32)), (.ref a), (.int (0 : Int32)), (.ref a)])) rfl rfl (hb hby zq_d13_72)) ?_
  show zq_Go p e below s _ _ _ (T10.setTop (mkF m 73 #[.val (.ref a)] [(.long (zq_rl2 (v.1 + v.2.1) (32 : Int32))), (.int (0 : Int32)), (.ref a)]))
  refine zq_go (fun _ kq => XS.aloadN X10.here hx rfl (hb hby zq_d13_73) rfl rfl kq) ?_
  show zq_Go p e below s _ _ _ (T10.setTop (mkF m 74 #[.val (.ref a)] [(.ref a), (.long (zq_rl2 (v.1 + v.2.1) (32 : Int32))), (.int (0 : Int32)), (.ref a)]))
  refine zq_go (fun _ kq => XS.iconst X10.here hx rfl (hb hby zq_d13_74) kq) ?_
  show zq_Go p e below s _ _ _ (T10.setTop (mkF m 75 #[.val (.ref a)] [(.int (3 : Int32)), (.ref a), (.long (zq_rl2 (v.1 + v.2.1) (32 : Int32))), (.int (0 : Int32)), (.ref a)]))
  refine zq_go (zq_ldJ X10 hx hZ e10 A_a (j := (3 : Int32)) (i := 3) (by decide) (by decide) (by decide) (g := (mkF m 75 #[.val (.ref a)] [(.int (3 : Int32)), (.ref a), (.long (zq_rl2 (v.1 + v.2.1) (32 : Int32))), (.int (0 : Int32)), (.ref a)])) rfl rfl (hb hby zq_d13_75)) ?_
  show zq_Go p e below s _ _ _ (T10.setTop (mkF m 76 #[.val (.ref a)] [(.long ((zq_rl2 v.2.2.2 (16 : Int32)) ^^^ (v.2.2.1 + v.2.2.2))), (.long (zq_rl2 (v.1 + v.2.1) (32 : Int32))), (.int (0 : Int32)), (.ref a)]))
  refine zq_go (fun _ kq => XS.ladd X10.here hx rfl (hb hby zq_d13_76) rfl kq) ?_
  show zq_Go p e below s _ _ _ (T10.setTop (mkF m 77 #[.val (.ref a)] [(.long ((zq_rl2 (v.1 + v.2.1) (32 : Int32)) + ((zq_rl2 v.2.2.2 (16 : Int32)) ^^^ (v.2.2.1 + v.2.2.2)))), (.int (0 : Int32)), (.ref a)]))
  obtain ⟨T11, h11, X11, e11, W11, A_a, st11⟩ := zq_stJ X10 hx hZ e10 A_a (j := (0 : Int32)) (i := 0) (by decide) (by decide) (by decide) (g := (mkF m 77 #[.val (.ref a)] [(.long ((zq_rl2 (v.1 + v.2.1) (32 : Int32)) + ((zq_rl2 v.2.2.2 (16 : Int32)) ^^^ (v.2.2.1 + v.2.2.2)))), (.int (0 : Int32)), (.ref a)])) rfl rfl (hb hby zq_d13_77)
  refine zq_go st11 ?_
  have ZS := Nat.le_trans ZS (Keep.of_wr W11).1
  have KP := KP.wr W11 (Or.inl (by simp))
  have A_a : zq_A Z h11 a .long 4 (fun k => .long (([((zq_rl2 (v.1 + v.2.1) (32 : Int32)) + ((zq_rl2 v.2.2.2 (16 : Int32)) ^^^ (v.2.2.1 + v.2.2.2))), ((zq_rl2 v.2.1 (13 : Int32)) ^^^ (v.1 + v.2.1)), (v.2.2.1 + v.2.2.2), ((zq_rl2 v.2.2.2 (16 : Int32)) ^^^ (v.2.2.1 + v.2.2.2))] : List Int64).getD k 0)) := A_a.congr (fun j hj => by match j, hj with | 0, _ => rfl | 1, _ => rfl | 2, _ => rfl | 3, _ => rfl | (j + 4), hj => exact absurd hj (by omega))
  obtain ⟨L11, X11, NF⟩ : ∃ L : List Loc, Stand p l e ({ frames := 1, cells := 0, slots := 0, locals := 16 } : Room) s m #[(.ref a)] below meth c T11 L 0 0 ∧ Fr n0 L := ⟨_, X11, Fr.snoc X11 NF g_a⟩
  show zq_Go p e below s _ _ _ (T11.setTop (mkF m 78 #[.val (.ref a)] []))
  refine zq_go (fun _ kq => XS.aloadN X11.here hx rfl (hb hby zq_d13_78) rfl rfl kq) ?_
  show zq_Go p e below s _ _ _ (T11.setTop (mkF m 79 #[.val (.ref a)] [(.ref a)]))
  refine zq_go (fun _ kq => XS.iconst X11.here hx rfl (hb hby zq_d13_79) kq) ?_
  show zq_Go p e below s _ _ _ (T11.setTop (mkF m 80 #[.val (.ref a)] [(.int (3 : Int32)), (.ref a)]))
  refine zq_go (fun _ kq => XS.aloadN X11.here hx rfl (hb hby zq_d13_80) rfl rfl kq) ?_
  show zq_Go p e below s _ _ _ (T11.setTop (mkF m 81 #[.val (.ref a)] [(.ref a), (.int (3 : Int32)), (.ref a)]))
  refine zq_go (fun _ kq => XS.iconst X11.here hx rfl (hb hby zq_d13_81) kq) ?_
  show zq_Go p e below s _ _ _ (T11.setTop (mkF m 82 #[.val (.ref a)] [(.int (3 : Int32)), (.ref a), (.int (3 : Int32)), (.ref a)]))
  refine zq_go (zq_ldJ X11 hx hZ e11 A_a (j := (3 : Int32)) (i := 3) (by decide) (by decide) (by decide) (g := (mkF m 82 #[.val (.ref a)] [(.int (3 : Int32)), (.ref a), (.int (3 : Int32)), (.ref a)])) rfl rfl (hb hby zq_d13_82)) ?_
  show zq_Go p e below s _ _ _ (T11.setTop (mkF m 83 #[.val (.ref a)] [(.long ((zq_rl2 v.2.2.2 (16 : Int32)) ^^^ (v.2.2.1 + v.2.2.2))), (.int (3 : Int32)), (.ref a)]))
  refine zq_go (fun _ kq => XS.bipush X11.here hx rfl (hb hby zq_d13_83) kq) ?_
  show zq_Go p e below s _ _ _ (T11.setTop (mkF m 85 #[.val (.ref a)] [(.int (21 : Int32)), (.long ((zq_rl2 v.2.2.2 (16 : Int32)) ^^^ (v.2.2.1 + v.2.2.2))), (.int (3 : Int32)), (.ref a)]))
  obtain ⟨T12, X12, e12, st12⟩ := zq_callP (W := 2) X11 hx hZ hown (hw _ (List.mem_of_getElem? (i := 78) rfl)) (hw _ (List.mem_of_getElem? (i := 79) rfl)) (hw _ (List.mem_of_getElem? (i := 59) rfl)) (hw _ (List.mem_of_getElem? (i := 80) rfl)) (by decide) (zq_rmL2 l Z a0 hw [] ((zq_rl2 v.2.2.2 (16 : Int32)) ^^^ (v.2.2.1 + v.2.2.2)) (21 : Int32) h11) e11 (by decide) (by decide) rfl rfl (by decide) (by decide) (g := (mkF m 85 #[.val (.ref a)] [(.int (21 : Int32)), (.long ((zq_rl2 v.2.2.2 (16 : Int32)) ^^^ (v.2.2.1 + v.2.2.2))), (.int (3 : Int32)), (.ref a)])) rfl (by rw [hml]; rfl) (argsL := [(.long ((zq_rl2 v.2.2.2 (16 : Int32)) ^^^ (v.2.2.1 + v.2.2.2))), (.int (21 : Int32))]) (rest := [(.int (3 : Int32)), (.ref a)]) (lenOf zq_pd3 rfl) rfl (by show 2 * 0 + _ ≤ _; exact Nat.le_of_eq rfl) (hb hby zq_d13_85)
  refine zq_go st12 ?_
  show zq_Go p e below s _ _ _ (T12.setTop (mkF m 88 #[.val (.ref a)] [(.long (zq_rl2 ((zq_rl2 v.2.2.2 (16 : Int32)) ^^^ (v.2.2.1 + v.2.2.2)) (21 : Int32))), (.int (3 : Int32)), (.ref a)]))
  obtain ⟨T13, h13, X13, e13, W13, A_a, st13⟩ := zq_stJ X12 hx hZ e12 A_a (j := (3 : Int32)) (i := 3) (by decide) (by decide) (by decide) (g := (mkF m 88 #[.val (.ref a)] [(.long (zq_rl2 ((zq_rl2 v.2.2.2 (16 : Int32)) ^^^ (v.2.2.1 + v.2.2.2)) (21 : Int32))), (.int (3 : Int32)), (.ref a)])) rfl rfl (hb hby zq_d13_88)
  refine zq_go st13 ?_
  have ZS := Nat.le_trans ZS (Keep.of_wr W13).1
  have KP := KP.wr W13 (Or.inl (by simp))
  have A_a : zq_A Z h13 a .long 4 (fun k => .long (([((zq_rl2 (v.1 + v.2.1) (32 : Int32)) + ((zq_rl2 v.2.2.2 (16 : Int32)) ^^^ (v.2.2.1 + v.2.2.2))), ((zq_rl2 v.2.1 (13 : Int32)) ^^^ (v.1 + v.2.1)), (v.2.2.1 + v.2.2.2), (zq_rl2 ((zq_rl2 v.2.2.2 (16 : Int32)) ^^^ (v.2.2.1 + v.2.2.2)) (21 : Int32))] : List Int64).getD k 0)) := A_a.congr (fun j hj => by match j, hj with | 0, _ => rfl | 1, _ => rfl | 2, _ => rfl | 3, _ => rfl | (j + 4), hj => exact absurd hj (by omega))
  obtain ⟨L13, X13, NF⟩ : ∃ L : List Loc, Stand p l e ({ frames := 1, cells := 0, slots := 0, locals := 16 } : Room) s m #[(.ref a)] below meth c T13 L 0 0 ∧ Fr n0 L := ⟨_, X13, Fr.snoc X13 NF g_a⟩
  show zq_Go p e below s _ _ _ (T13.setTop (mkF m 89 #[.val (.ref a)] []))
  refine zq_go (fun _ kq => XS.aloadN X13.here hx rfl (hb hby zq_d13_89) rfl rfl kq) ?_
  show zq_Go p e below s _ _ _ (T13.setTop (mkF m 90 #[.val (.ref a)] [(.ref a)]))
  refine zq_go (fun _ kq => XS.iconst X13.here hx rfl (hb hby zq_d13_90) kq) ?_
  show zq_Go p e below s _ _ _ (T13.setTop (mkF m 91 #[.val (.ref a)] [(.int (3 : Int32)), (.ref a)]))
  refine zq_go (fun _ kq => Jvm.Free.XT.dup2 X13.here hx rfl (hb hby zq_d13_91) rfl rfl rfl kq) ?_
  show zq_Go p e below s _ _ _ (T13.setTop (mkF m 92 #[.val (.ref a)] [(.int (3 : Int32)), (.ref a), (.int (3 : Int32)), (.ref a)]))
  refine zq_go (zq_ldJ X13 hx hZ e13 A_a (j := (3 : Int32)) (i := 3) (by decide) (by decide) (by decide) (g := (mkF m 92 #[.val (.ref a)] [(.int (3 : Int32)), (.ref a), (.int (3 : Int32)), (.ref a)])) rfl rfl (hb hby zq_d13_92)) ?_
  show zq_Go p e below s _ _ _ (T13.setTop (mkF m 93 #[.val (.ref a)] [(.long (zq_rl2 ((zq_rl2 v.2.2.2 (16 : Int32)) ^^^ (v.2.2.1 + v.2.2.2)) (21 : Int32))), (.int (3 : Int32)), (.ref a)]))
  refine zq_go (fun _ kq => XS.aloadN X13.here hx rfl (hb hby zq_d13_93) rfl rfl kq) ?_
  show zq_Go p e below s _ _ _ (T13.setTop (mkF m 94 #[.val (.ref a)] [(.ref a), (.long (zq_rl2 ((zq_rl2 v.2.2.2 (16 : Int32)) ^^^ (v.2.2.1 + v.2.2.2)) (21 : Int32))), (.int (3 : Int32)), (.ref a)]))
  refine zq_go (fun _ kq => XS.iconst X13.here hx rfl (hb hby zq_d13_94) kq) ?_
  show zq_Go p e below s _ _ _ (T13.setTop (mkF m 95 #[.val (.ref a)] [(.int (0 : Int32)), (.ref a), (.long (zq_rl2 ((zq_rl2 v.2.2.2 (16 : Int32)) ^^^ (v.2.2.1 + v.2.2.2)) (21 : Int32))), (.int (3 : Int32)), (.ref a)]))
  refine zq_go (zq_ldJ X13 hx hZ e13 A_a (j := (0 : Int32)) (i := 0) (by decide) (by decide) (by decide) (g := (mkF m 95 #[.val (.ref a)] [(.int (0 : Int32)), (.ref a), (.long (zq_rl2 ((zq_rl2 v.2.2.2 (16 : Int32)) ^^^ (v.2.2.1 + v.2.2.2)) (21 : Int32))), (.int (3 : Int32)), (.ref a)])) rfl rfl (hb hby zq_d13_95)) ?_
  show zq_Go p e below s _ _ _ (T13.setTop (mkF m 96 #[.val (.ref a)] [(.long ((zq_rl2 (v.1 + v.2.1) (32 : Int32)) + ((zq_rl2 v.2.2.2 (16 : Int32)) ^^^ (v.2.2.1 + v.2.2.2)))), (.long (zq_rl2 ((zq_rl2 v.2.2.2 (16 : Int32)) ^^^ (v.2.2.1 + v.2.2.2)) (21 : Int32))), (.int (3 : Int32)), (.ref a)]))
  refine zq_go (fun _ kq => XS.lxor X13.here hx rfl (hb hby zq_d13_96) rfl kq) ?_
  show zq_Go p e below s _ _ _ (T13.setTop (mkF m 97 #[.val (.ref a)] [(.long ((zq_rl2 ((zq_rl2 v.2.2.2 (16 : Int32)) ^^^ (v.2.2.1 + v.2.2.2)) (21 : Int32)) ^^^ ((zq_rl2 (v.1 + v.2.1) (32 : Int32)) + ((zq_rl2 v.2.2.2 (16 : Int32)) ^^^ (v.2.2.1 + v.2.2.2))))), (.int (3 : Int32)), (.ref a)]))
  obtain ⟨T14, h14, X14, e14, W14, A_a, st14⟩ := zq_stJ X13 hx hZ e13 A_a (j := (3 : Int32)) (i := 3) (by decide) (by decide) (by decide) (g := (mkF m 97 #[.val (.ref a)] [(.long ((zq_rl2 ((zq_rl2 v.2.2.2 (16 : Int32)) ^^^ (v.2.2.1 + v.2.2.2)) (21 : Int32)) ^^^ ((zq_rl2 (v.1 + v.2.1) (32 : Int32)) + ((zq_rl2 v.2.2.2 (16 : Int32)) ^^^ (v.2.2.1 + v.2.2.2))))), (.int (3 : Int32)), (.ref a)])) rfl rfl (hb hby zq_d13_97)
  refine zq_go st14 ?_
  have ZS := Nat.le_trans ZS (Keep.of_wr W14).1
  have KP := KP.wr W14 (Or.inl (by simp))
  have A_a : zq_A Z h14 a .long 4 (fun k => .long (([((zq_rl2 (v.1 + v.2.1) (32 : Int32)) + ((zq_rl2 v.2.2.2 (16 : Int32)) ^^^ (v.2.2.1 + v.2.2.2))), ((zq_rl2 v.2.1 (13 : Int32)) ^^^ (v.1 + v.2.1)), (v.2.2.1 + v.2.2.2), ((zq_rl2 ((zq_rl2 v.2.2.2 (16 : Int32)) ^^^ (v.2.2.1 + v.2.2.2)) (21 : Int32)) ^^^ ((zq_rl2 (v.1 + v.2.1) (32 : Int32)) + ((zq_rl2 v.2.2.2 (16 : Int32)) ^^^ (v.2.2.1 + v.2.2.2))))] : List Int64).getD k 0)) := A_a.congr (fun j hj => by match j, hj with | 0, _ => rfl | 1, _ => rfl | 2, _ => rfl | 3, _ => rfl | (j + 4), hj => exact absurd hj (by omega))
  obtain ⟨L14, X14, NF⟩ : ∃ L : List Loc, Stand p l e ({ frames := 1, cells := 0, slots := 0, locals := 16 } : Room) s m #[(.ref a)] below meth c T14 L 0 0 ∧ Fr n0 L := ⟨_, X14, Fr.snoc X14 NF g_a⟩
  show zq_Go p e below s _ _ _ (T14.setTop (mkF m 98 #[.val (.ref a)] []))
  refine zq_go (fun _ kq => XS.aloadN X14.here hx rfl (hb hby zq_d13_98) rfl rfl kq) ?_
  show zq_Go p e below s _ _ _ (T14.setTop (mkF m 99 #[.val (.ref a)] [(.ref a)]))
  refine zq_go (fun _ kq => XS.iconst X14.here hx rfl (hb hby zq_d13_99) kq) ?_
  show zq_Go p e below s _ _ _ (T14.setTop (mkF m 100 #[.val (.ref a)] [(.int (2 : Int32)), (.ref a)]))
  refine zq_go (fun _ kq => Jvm.Free.XT.dup2 X14.here hx rfl (hb hby zq_d13_100) rfl rfl rfl kq) ?_
  show zq_Go p e below s _ _ _ (T14.setTop (mkF m 101 #[.val (.ref a)] [(.int (2 : Int32)), (.ref a), (.int (2 : Int32)), (.ref a)]))
  refine zq_go (zq_ldJ X14 hx hZ e14 A_a (j := (2 : Int32)) (i := 2) (by decide) (by decide) (by decide) (g := (mkF m 101 #[.val (.ref a)] [(.int (2 : Int32)), (.ref a), (.int (2 : Int32)), (.ref a)])) rfl rfl (hb hby zq_d13_101)) ?_
  show zq_Go p e below s _ _ _ (T14.setTop (mkF m 102 #[.val (.ref a)] [(.long (v.2.2.1 + v.2.2.2)), (.int (2 : Int32)), (.ref a)]))
  refine zq_go (fun _ kq => XS.aloadN X14.here hx rfl (hb hby zq_d13_102) rfl rfl kq) ?_
  show zq_Go p e below s _ _ _ (T14.setTop (mkF m 103 #[.val (.ref a)] [(.ref a), (.long (v.2.2.1 + v.2.2.2)), (.int (2 : Int32)), (.ref a)]))
  refine zq_go (fun _ kq => XS.iconst X14.here hx rfl (hb hby zq_d13_103) kq) ?_
  show zq_Go p e below s _ _ _ (T14.setTop (mkF m 104 #[.val (.ref a)] [(.int (1 : Int32)), (.ref a), (.long (v.2.2.1 + v.2.2.2)), (.int (2 : Int32)), (.ref a)]))
  refine zq_go (zq_ldJ X14 hx hZ e14 A_a (j := (1 : Int32)) (i := 1) (by decide) (by decide) (by decide) (g := (mkF m 104 #[.val (.ref a)] [(.int (1 : Int32)), (.ref a), (.long (v.2.2.1 + v.2.2.2)), (.int (2 : Int32)), (.ref a)])) rfl rfl (hb hby zq_d13_104)) ?_
  show zq_Go p e below s _ _ _ (T14.setTop (mkF m 105 #[.val (.ref a)] [(.long ((zq_rl2 v.2.1 (13 : Int32)) ^^^ (v.1 + v.2.1))), (.long (v.2.2.1 + v.2.2.2)), (.int (2 : Int32)), (.ref a)]))
  refine zq_go (fun _ kq => XS.ladd X14.here hx rfl (hb hby zq_d13_105) rfl kq) ?_
  show zq_Go p e below s _ _ _ (T14.setTop (mkF m 106 #[.val (.ref a)] [(.long ((v.2.2.1 + v.2.2.2) + ((zq_rl2 v.2.1 (13 : Int32)) ^^^ (v.1 + v.2.1)))), (.int (2 : Int32)), (.ref a)]))
  obtain ⟨T15, h15, X15, e15, W15, A_a, st15⟩ := zq_stJ X14 hx hZ e14 A_a (j := (2 : Int32)) (i := 2) (by decide) (by decide) (by decide) (g := (mkF m 106 #[.val (.ref a)] [(.long ((v.2.2.1 + v.2.2.2) + ((zq_rl2 v.2.1 (13 : Int32)) ^^^ (v.1 + v.2.1)))), (.int (2 : Int32)), (.ref a)])) rfl rfl (hb hby zq_d13_106)
  refine zq_go st15 ?_
  have ZS := Nat.le_trans ZS (Keep.of_wr W15).1
  have KP := KP.wr W15 (Or.inl (by simp))
  have A_a : zq_A Z h15 a .long 4 (fun k => .long (([((zq_rl2 (v.1 + v.2.1) (32 : Int32)) + ((zq_rl2 v.2.2.2 (16 : Int32)) ^^^ (v.2.2.1 + v.2.2.2))), ((zq_rl2 v.2.1 (13 : Int32)) ^^^ (v.1 + v.2.1)), ((v.2.2.1 + v.2.2.2) + ((zq_rl2 v.2.1 (13 : Int32)) ^^^ (v.1 + v.2.1))), ((zq_rl2 ((zq_rl2 v.2.2.2 (16 : Int32)) ^^^ (v.2.2.1 + v.2.2.2)) (21 : Int32)) ^^^ ((zq_rl2 (v.1 + v.2.1) (32 : Int32)) + ((zq_rl2 v.2.2.2 (16 : Int32)) ^^^ (v.2.2.1 + v.2.2.2))))] : List Int64).getD k 0)) := A_a.congr (fun j hj => by match j, hj with | 0, _ => rfl | 1, _ => rfl | 2, _ => rfl | 3, _ => rfl | (j + 4), hj => exact absurd hj (by omega))
  obtain ⟨L15, X15, NF⟩ : ∃ L : List Loc, Stand p l e ({ frames := 1, cells := 0, slots := 0, locals := 16 } : Room) s m #[(.ref a)] below meth c T15 L 0 0 ∧ Fr n0 L := ⟨_, X15, Fr.snoc X15 NF g_a⟩
  show zq_Go p e below s _ _ _ (T15.setTop (mkF m 107 #[.val (.ref a)] []))
  refine zq_go (fun _ kq => XS.aloadN X15.here hx rfl (hb hby zq_d13_107) rfl rfl kq) ?_
  show zq_Go p e below s _ _ _ (T15.setTop (mkF m 108 #[.val (.ref a)] [(.ref a)]))
  refine zq_go (fun _ kq => XS.iconst X15.here hx rfl (hb hby zq_d13_108) kq) ?_
  show zq_Go p e below s _ _ _ (T15.setTop (mkF m 109 #[.val (.ref a)] [(.int (1 : Int32)), (.ref a)]))
  refine zq_go (fun _ kq => XS.aloadN X15.here hx rfl (hb hby zq_d13_109) rfl rfl kq) ?_
  show zq_Go p e below s _ _ _ (T15.setTop (mkF m 110 #[.val (.ref a)] [(.ref a), (.int (1 : Int32)), (.ref a)]))
  refine zq_go (fun _ kq => XS.iconst X15.here hx rfl (hb hby zq_d13_110) kq) ?_
  show zq_Go p e below s _ _ _ (T15.setTop (mkF m 111 #[.val (.ref a)] [(.int (1 : Int32)), (.ref a), (.int (1 : Int32)), (.ref a)]))
  refine zq_go (zq_ldJ X15 hx hZ e15 A_a (j := (1 : Int32)) (i := 1) (by decide) (by decide) (by decide) (g := (mkF m 111 #[.val (.ref a)] [(.int (1 : Int32)), (.ref a), (.int (1 : Int32)), (.ref a)])) rfl rfl (hb hby zq_d13_111)) ?_
  show zq_Go p e below s _ _ _ (T15.setTop (mkF m 112 #[.val (.ref a)] [(.long ((zq_rl2 v.2.1 (13 : Int32)) ^^^ (v.1 + v.2.1))), (.int (1 : Int32)), (.ref a)]))
  refine zq_go (fun _ kq => XS.bipush X15.here hx rfl (hb hby zq_d13_112) kq) ?_
  show zq_Go p e below s _ _ _ (T15.setTop (mkF m 114 #[.val (.ref a)] [(.int (17 : Int32)), (.long ((zq_rl2 v.2.1 (13 : Int32)) ^^^ (v.1 + v.2.1))), (.int (1 : Int32)), (.ref a)]))
  obtain ⟨T16, X16, e16, st16⟩ := zq_callP (W := 2) X15 hx hZ hown (hw _ (List.mem_of_getElem? (i := 78) rfl)) (hw _ (List.mem_of_getElem? (i := 79) rfl)) (hw _ (List.mem_of_getElem? (i := 59) rfl)) (hw _ (List.mem_of_getElem? (i := 80) rfl)) (by decide) (zq_rmL2 l Z a0 hw [] ((zq_rl2 v.2.1 (13 : Int32)) ^^^ (v.1 + v.2.1)) (17 : Int32) h15) e15 (by decide) (by decide) rfl rfl (by decide) (by decide) (g := (mkF m 114 #[.val (.ref a)] [(.int (17 : Int32)), (.long ((zq_rl2 v.2.1 (13 : Int32)) ^^^ (v.1 + v.2.1))), (.int (1 : Int32)), (.ref a)])) rfl (by rw [hml]; rfl) (argsL := [(.long ((zq_rl2 v.2.1 (13 : Int32)) ^^^ (v.1 + v.2.1))), (.int (17 : Int32))]) (rest := [(.int (1 : Int32)), (.ref a)]) (lenOf zq_pd3 rfl) rfl (by show 2 * 0 + _ ≤ _; exact Nat.le_of_eq rfl) (hb hby zq_d13_114)
  refine zq_go st16 ?_
  show zq_Go p e below s _ _ _ (T16.setTop (mkF m 117 #[.val (.ref a)] [(.long (zq_rl2 ((zq_rl2 v.2.1 (13 : Int32)) ^^^ (v.1 + v.2.1)) (17 : Int32))), (.int (1 : Int32)), (.ref a)]))
  obtain ⟨T17, h17, X17, e17, W17, A_a, st17⟩ := zq_stJ X16 hx hZ e16 A_a (j := (1 : Int32)) (i := 1) (by decide) (by decide) (by decide) (g := (mkF m 117 #[.val (.ref a)] [(.long (zq_rl2 ((zq_rl2 v.2.1 (13 : Int32)) ^^^ (v.1 + v.2.1)) (17 : Int32))), (.int (1 : Int32)), (.ref a)])) rfl rfl (hb hby zq_d13_117)
  refine zq_go st17 ?_
  have ZS := Nat.le_trans ZS (Keep.of_wr W17).1
  have KP := KP.wr W17 (Or.inl (by simp))
  have A_a : zq_A Z h17 a .long 4 (fun k => .long (([((zq_rl2 (v.1 + v.2.1) (32 : Int32)) + ((zq_rl2 v.2.2.2 (16 : Int32)) ^^^ (v.2.2.1 + v.2.2.2))), (zq_rl2 ((zq_rl2 v.2.1 (13 : Int32)) ^^^ (v.1 + v.2.1)) (17 : Int32)), ((v.2.2.1 + v.2.2.2) + ((zq_rl2 v.2.1 (13 : Int32)) ^^^ (v.1 + v.2.1))), ((zq_rl2 ((zq_rl2 v.2.2.2 (16 : Int32)) ^^^ (v.2.2.1 + v.2.2.2)) (21 : Int32)) ^^^ ((zq_rl2 (v.1 + v.2.1) (32 : Int32)) + ((zq_rl2 v.2.2.2 (16 : Int32)) ^^^ (v.2.2.1 + v.2.2.2))))] : List Int64).getD k 0)) := A_a.congr (fun j hj => by match j, hj with | 0, _ => rfl | 1, _ => rfl | 2, _ => rfl | 3, _ => rfl | (j + 4), hj => exact absurd hj (by omega))
  obtain ⟨L17, X17, NF⟩ : ∃ L : List Loc, Stand p l e ({ frames := 1, cells := 0, slots := 0, locals := 16 } : Room) s m #[(.ref a)] below meth c T17 L 0 0 ∧ Fr n0 L := ⟨_, X17, Fr.snoc X17 NF g_a⟩
  show zq_Go p e below s _ _ _ (T17.setTop (mkF m 118 #[.val (.ref a)] []))
  refine zq_go (fun _ kq => XS.aloadN X17.here hx rfl (hb hby zq_d13_118) rfl rfl kq) ?_
  show zq_Go p e below s _ _ _ (T17.setTop (mkF m 119 #[.val (.ref a)] [(.ref a)]))
  refine zq_go (fun _ kq => XS.iconst X17.here hx rfl (hb hby zq_d13_119) kq) ?_
  show zq_Go p e below s _ _ _ (T17.setTop (mkF m 120 #[.val (.ref a)] [(.int (1 : Int32)), (.ref a)]))
  refine zq_go (fun _ kq => Jvm.Free.XT.dup2 X17.here hx rfl (hb hby zq_d13_120) rfl rfl rfl kq) ?_
  show zq_Go p e below s _ _ _ (T17.setTop (mkF m 121 #[.val (.ref a)] [(.int (1 : Int32)), (.ref a), (.int (1 : Int32)), (.ref a)]))
  refine zq_go (zq_ldJ X17 hx hZ e17 A_a (j := (1 : Int32)) (i := 1) (by decide) (by decide) (by decide) (g := (mkF m 121 #[.val (.ref a)] [(.int (1 : Int32)), (.ref a), (.int (1 : Int32)), (.ref a)])) rfl rfl (hb hby zq_d13_121)) ?_
  show zq_Go p e below s _ _ _ (T17.setTop (mkF m 122 #[.val (.ref a)] [(.long (zq_rl2 ((zq_rl2 v.2.1 (13 : Int32)) ^^^ (v.1 + v.2.1)) (17 : Int32))), (.int (1 : Int32)), (.ref a)]))
  refine zq_go (fun _ kq => XS.aloadN X17.here hx rfl (hb hby zq_d13_122) rfl rfl kq) ?_
  show zq_Go p e below s _ _ _ (T17.setTop (mkF m 123 #[.val (.ref a)] [(.ref a), (.long (zq_rl2 ((zq_rl2 v.2.1 (13 : Int32)) ^^^ (v.1 + v.2.1)) (17 : Int32))), (.int (1 : Int32)), (.ref a)]))
  refine zq_go (fun _ kq => XS.iconst X17.here hx rfl (hb hby zq_d13_123) kq) ?_
  show zq_Go p e below s _ _ _ (T17.setTop (mkF m 124 #[.val (.ref a)] [(.int (2 : Int32)), (.ref a), (.long (zq_rl2 ((zq_rl2 v.2.1 (13 : Int32)) ^^^ (v.1 + v.2.1)) (17 : Int32))), (.int (1 : Int32)), (.ref a)]))
  refine zq_go (zq_ldJ X17 hx hZ e17 A_a (j := (2 : Int32)) (i := 2) (by decide) (by decide) (by decide) (g := (mkF m 124 #[.val (.ref a)] [(.int (2 : Int32)), (.ref a), (.long (zq_rl2 ((zq_rl2 v.2.1 (13 : Int32)) ^^^ (v.1 + v.2.1)) (17 : Int32))), (.int (1 : Int32)), (.ref a)])) rfl rfl (hb hby zq_d13_124)) ?_
  show zq_Go p e below s _ _ _ (T17.setTop (mkF m 125 #[.val (.ref a)] [(.long ((v.2.2.1 + v.2.2.2) + ((zq_rl2 v.2.1 (13 : Int32)) ^^^ (v.1 + v.2.1)))), (.long (zq_rl2 ((zq_rl2 v.2.1 (13 : Int32)) ^^^ (v.1 + v.2.1)) (17 : Int32))), (.int (1 : Int32)), (.ref a)]))
  refine zq_go (fun _ kq => XS.lxor X17.here hx rfl (hb hby zq_d13_125) rfl kq) ?_
  show zq_Go p e below s _ _ _ (T17.setTop (mkF m 126 #[.val (.ref a)] [(.long ((zq_rl2 ((zq_rl2 v.2.1 (13 : Int32)) ^^^ (v.1 + v.2.1)) (17 : Int32)) ^^^ ((v.2.2.1 + v.2.2.2) + ((zq_rl2 v.2.1 (13 : Int32)) ^^^ (v.1 + v.2.1))))), (.int (1 : Int32)), (.ref a)]))
  obtain ⟨T18, h18, X18, e18, W18, A_a, st18⟩ := zq_stJ X17 hx hZ e17 A_a (j := (1 : Int32)) (i := 1) (by decide) (by decide) (by decide) (g := (mkF m 126 #[.val (.ref a)] [(.long ((zq_rl2 ((zq_rl2 v.2.1 (13 : Int32)) ^^^ (v.1 + v.2.1)) (17 : Int32)) ^^^ ((v.2.2.1 + v.2.2.2) + ((zq_rl2 v.2.1 (13 : Int32)) ^^^ (v.1 + v.2.1))))), (.int (1 : Int32)), (.ref a)])) rfl rfl (hb hby zq_d13_126)
  refine zq_go st18 ?_
  have ZS := Nat.le_trans ZS (Keep.of_wr W18).1
  have KP := KP.wr W18 (Or.inl (by simp))
  have A_a : zq_A Z h18 a .long 4 (fun k => .long (([((zq_rl2 (v.1 + v.2.1) (32 : Int32)) + ((zq_rl2 v.2.2.2 (16 : Int32)) ^^^ (v.2.2.1 + v.2.2.2))), ((zq_rl2 ((zq_rl2 v.2.1 (13 : Int32)) ^^^ (v.1 + v.2.1)) (17 : Int32)) ^^^ ((v.2.2.1 + v.2.2.2) + ((zq_rl2 v.2.1 (13 : Int32)) ^^^ (v.1 + v.2.1)))), ((v.2.2.1 + v.2.2.2) + ((zq_rl2 v.2.1 (13 : Int32)) ^^^ (v.1 + v.2.1))), ((zq_rl2 ((zq_rl2 v.2.2.2 (16 : Int32)) ^^^ (v.2.2.1 + v.2.2.2)) (21 : Int32)) ^^^ ((zq_rl2 (v.1 + v.2.1) (32 : Int32)) + ((zq_rl2 v.2.2.2 (16 : Int32)) ^^^ (v.2.2.1 + v.2.2.2))))] : List Int64).getD k 0)) := A_a.congr (fun j hj => by match j, hj with | 0, _ => rfl | 1, _ => rfl | 2, _ => rfl | 3, _ => rfl | (j + 4), hj => exact absurd hj (by omega))
  obtain ⟨L18, X18, NF⟩ : ∃ L : List Loc, Stand p l e ({ frames := 1, cells := 0, slots := 0, locals := 16 } : Room) s m #[(.ref a)] below meth c T18 L 0 0 ∧ Fr n0 L := ⟨_, X18, Fr.snoc X18 NF g_a⟩
  show zq_Go p e below s _ _ _ (T18.setTop (mkF m 127 #[.val (.ref a)] []))
  refine zq_go (fun _ kq => XS.aloadN X18.here hx rfl (hb hby zq_d13_127) rfl rfl kq) ?_
  show zq_Go p e below s _ _ _ (T18.setTop (mkF m 128 #[.val (.ref a)] [(.ref a)]))
  refine zq_go (fun _ kq => XS.iconst X18.here hx rfl (hb hby zq_d13_128) kq) ?_
  show zq_Go p e below s _ _ _ (T18.setTop (mkF m 129 #[.val (.ref a)] [(.int (2 : Int32)), (.ref a)]))
  refine zq_go (fun _ kq => XS.aloadN X18.here hx rfl (hb hby zq_d13_129) rfl rfl kq) ?_
  show zq_Go p e below s _ _ _ (T18.setTop (mkF m 130 #[.val (.ref a)] [(.ref a), (.int (2 : Int32)), (.ref a)]))
  refine zq_go (fun _ kq => XS.iconst X18.here hx rfl (hb hby zq_d13_130) kq) ?_
  show zq_Go p e below s _ _ _ (T18.setTop (mkF m 131 #[.val (.ref a)] [(.int (2 : Int32)), (.ref a), (.int (2 : Int32)), (.ref a)]))
  refine zq_go (zq_ldJ X18 hx hZ e18 A_a (j := (2 : Int32)) (i := 2) (by decide) (by decide) (by decide) (g := (mkF m 131 #[.val (.ref a)] [(.int (2 : Int32)), (.ref a), (.int (2 : Int32)), (.ref a)])) rfl rfl (hb hby zq_d13_131)) ?_
  show zq_Go p e below s _ _ _ (T18.setTop (mkF m 132 #[.val (.ref a)] [(.long ((v.2.2.1 + v.2.2.2) + ((zq_rl2 v.2.1 (13 : Int32)) ^^^ (v.1 + v.2.1)))), (.int (2 : Int32)), (.ref a)]))
  refine zq_go (fun _ kq => XS.bipush X18.here hx rfl (hb hby zq_d13_132) kq) ?_
  show zq_Go p e below s _ _ _ (T18.setTop (mkF m 134 #[.val (.ref a)] [(.int (32 : Int32)), (.long ((v.2.2.1 + v.2.2.2) + ((zq_rl2 v.2.1 (13 : Int32)) ^^^ (v.1 + v.2.1)))), (.int (2 : Int32)), (.ref a)]))
  obtain ⟨T19, X19, e19, st19⟩ := zq_callP (W := 2) X18 hx hZ hown (hw _ (List.mem_of_getElem? (i := 78) rfl)) (hw _ (List.mem_of_getElem? (i := 79) rfl)) (hw _ (List.mem_of_getElem? (i := 59) rfl)) (hw _ (List.mem_of_getElem? (i := 80) rfl)) (by decide) (zq_rmL2 l Z a0 hw [] ((v.2.2.1 + v.2.2.2) + ((zq_rl2 v.2.1 (13 : Int32)) ^^^ (v.1 + v.2.1))) (32 : Int32) h18) e18 (by decide) (by decide) rfl rfl (by decide) (by decide) (g := (mkF m 134 #[.val (.ref a)] [(.int (32 : Int32)), (.long ((v.2.2.1 + v.2.2.2) + ((zq_rl2 v.2.1 (13 : Int32)) ^^^ (v.1 + v.2.1)))), (.int (2 : Int32)), (.ref a)])) rfl (by rw [hml]; rfl) (argsL := [(.long ((v.2.2.1 + v.2.2.2) + ((zq_rl2 v.2.1 (13 : Int32)) ^^^ (v.1 + v.2.1)))), (.int (32 : Int32))]) (rest := [(.int (2 : Int32)), (.ref a)]) (lenOf zq_pd3 rfl) rfl (by show 2 * 0 + _ ≤ _; exact Nat.le_of_eq rfl) (hb hby zq_d13_134)
  refine zq_go st19 ?_
  show zq_Go p e below s _ _ _ (T19.setTop (mkF m 137 #[.val (.ref a)] [(.long (zq_rl2 ((v.2.2.1 + v.2.2.2) + ((zq_rl2 v.2.1 (13 : Int32)) ^^^ (v.1 + v.2.1))) (32 : Int32))), (.int (2 : Int32)), (.ref a)]))
  obtain ⟨T20, h20, X20, e20, W20, A_a, st20⟩ := zq_stJ X19 hx hZ e19 A_a (j := (2 : Int32)) (i := 2) (by decide) (by decide) (by decide) (g := (mkF m 137 #[.val (.ref a)] [(.long (zq_rl2 ((v.2.2.1 + v.2.2.2) + ((zq_rl2 v.2.1 (13 : Int32)) ^^^ (v.1 + v.2.1))) (32 : Int32))), (.int (2 : Int32)), (.ref a)])) rfl rfl (hb hby zq_d13_137)
  refine zq_go st20 ?_
  have ZS := Nat.le_trans ZS (Keep.of_wr W20).1
  have KP := KP.wr W20 (Or.inl (by simp))
  have A_a : zq_A Z h20 a .long 4 (fun k => .long (([((zq_rl2 (v.1 + v.2.1) (32 : Int32)) + ((zq_rl2 v.2.2.2 (16 : Int32)) ^^^ (v.2.2.1 + v.2.2.2))), ((zq_rl2 ((zq_rl2 v.2.1 (13 : Int32)) ^^^ (v.1 + v.2.1)) (17 : Int32)) ^^^ ((v.2.2.1 + v.2.2.2) + ((zq_rl2 v.2.1 (13 : Int32)) ^^^ (v.1 + v.2.1)))), (zq_rl2 ((v.2.2.1 + v.2.2.2) + ((zq_rl2 v.2.1 (13 : Int32)) ^^^ (v.1 + v.2.1))) (32 : Int32)), ((zq_rl2 ((zq_rl2 v.2.2.2 (16 : Int32)) ^^^ (v.2.2.1 + v.2.2.2)) (21 : Int32)) ^^^ ((zq_rl2 (v.1 + v.2.1) (32 : Int32)) + ((zq_rl2 v.2.2.2 (16 : Int32)) ^^^ (v.2.2.1 + v.2.2.2))))] : List Int64).getD k 0)) := A_a.congr (fun j hj => by match j, hj with | 0, _ => rfl | 1, _ => rfl | 2, _ => rfl | 3, _ => rfl | (j + 4), hj => exact absurd hj (by omega))
  obtain ⟨L20, X20, NF⟩ : ∃ L : List Loc, Stand p l e ({ frames := 1, cells := 0, slots := 0, locals := 16 } : Room) s m #[(.ref a)] below meth c T20 L 0 0 ∧ Fr n0 L := ⟨_, X20, Fr.snoc X20 NF g_a⟩
  show zq_Go p e below s _ _ _ (T20.setTop (mkF m 138 #[.val (.ref a)] []))
  exact zq_ret0 X20 hx hlk hret (hb hby zq_d13_138) (by rw [e20]; exact ⟨rfl, NF, KP, A_a⟩) (by decide) (by decide)
theorem zq_pd9 : parseMethodDescriptor "([J)V" = some ⟨[(.array .long)], none⟩ := by decide +kernel
theorem zq_d12_0 : decode method_6_code 0 = .ok (.aload_n 0, 1) := by decide +kernel
theorem zq_d12_1 : decode method_6_code 1 = .ok (.iconst 3, 1) := by decide +kernel
theorem zq_d12_2 : decode method_6_code 2 = .ok (.dup2, 1) := by decide +kernel
theorem zq_d12_3 : decode method_6_code 3 = .ok (.laload, 1) := by decide +kernel
theorem zq_d12_4 : decode method_6_code 4 = .ok (.lload_n 1, 1) := by decide +kernel
theorem zq_d12_5 : decode method_6_code 5 = .ok (.lxor, 1) := by decide +kernel
theorem zq_d12_6 : decode method_6_code 6 = .ok (.lastore, 1) := by decide +kernel
theorem zq_d12_7 : decode method_6_code 7 = .ok (.aload_n 0, 1) := by decide +kernel
theorem zq_d12_8 : decode method_6_code 8 = .ok (.invokestatic 40, 3) := by decide +kernel
theorem zq_d12_11 : decode method_6_code 11 = .ok (.aload_n 0, 1) := by decide +kernel
theorem zq_d12_12 : decode method_6_code 12 = .ok (.invokestatic 40, 3) := by decide +kernel
theorem zq_d12_15 : decode method_6_code 15 = .ok (.aload_n 0, 1) := by decide +kernel
theorem zq_d12_16 : decode method_6_code 16 = .ok (.iconst 0, 1) := by decide +kernel
theorem zq_d12_17 : decode method_6_code 17 = .ok (.dup2, 1) := by decide +kernel
theorem zq_d12_18 : decode method_6_code 18 = .ok (.laload, 1) := by decide +kernel
theorem zq_d12_19 : decode method_6_code 19 = .ok (.lload_n 1, 1) := by decide +kernel
theorem zq_d12_20 : decode method_6_code 20 = .ok (.lxor, 1) := by decide +kernel
theorem zq_d12_21 : decode method_6_code 21 = .ok (.lastore, 1) := by decide +kernel
theorem zq_d12_22 : decode method_6_code 22 = .ok (.return_, 1) := by decide +kernel
theorem zq_ef12 (m : MethodId) (x0 : Addr) (x1 : Int64) : entryFrame m #[(.ref x0), (.long x1)] 3 = mkF m 0 #[.val (.ref x0), .val (.long x1), .second] [] := by first | (simp [entryFrame, mkF, argsToLocals, Value.category]; done) | rfl
set_option maxRecDepth 65536 in
set_option maxHeartbeats 40000000 in
theorem zq_rmC (l : Launch) (Z : State) (a0 : Array Value) (hw : ∀ d ∈ tables_1, d.before a0 Z = true) (ws : List Jvm.Cond) (a : Addr) (mm : Int64) (h0 : Heap) (n0 : Nat) (v : zq_V) (A_a : zq_A Z h0 a .long 4 (fun k => .long (([v.1, v.2.1, v.2.2.1, v.2.2.2] : List Int64).getD k 0))) (g_a : n0 ≤ a) :
    zq_Met l Z (⟨"com/example/clearline/clearline/formats/TableHashOfPinLaw", "compress", "([JJ)V"⟩ : MethodName) method_6_code 3 none ws ({ frames := 2, cells := 0, slots := 0, locals := 28 } : Room) #[(.ref a), (.long mm)] h0 (fun r h L => r = none ∧ Fr n0 L ∧ Keep h0 h [a] ∧ zq_A Z h a .long 4 (fun k => .long (([(zq_tk zq_rd2 v mm).1, (zq_tk zq_rd2 v mm).2.1, (zq_tk zq_rd2 v mm).2.2.1, (zq_tk zq_rd2 v mm).2.2.2] : List Int64).getD k 0))) := by
  refine zq_body (plainFor_of_name zq_pn1) ?_
  intro p e s m below meth c s₁ hx hZ hby hml hret hlk hown hnm X0 e0
  refine zq_go (fun _ kq => castTop (zq_ef12 m a mm) kq) ?_
  have NF := Fr.nil n0
  have KP := Keep.refl h0 [a]
  have ZS : 0 ≤ h0.size := Nat.zero_le _
  show zq_Go p e below s _ _ _ (s₁.setTop (mkF m 0 #[.val (.ref a), .val (.long mm), .second] []))
  refine zq_go (fun _ kq => XS.aloadN X0.here hx rfl (hb hby zq_d12_0) rfl rfl kq) ?_
  show zq_Go p e below s _ _ _ (s₁.setTop (mkF m 1 #[.val (.ref a), .val (.long mm), .second] [(.ref a)]))
  refine zq_go (fun _ kq => XS.iconst X0.here hx rfl (hb hby zq_d12_1) kq) ?_
  show zq_Go p e below s _ _ _ (s₁.setTop (mkF m 2 #[.val (.ref a), .val (.long mm), .second] [(.int (3 : Int32)), (.ref a)]))
  refine zq_go (fun _ kq => Jvm.Free.XT.dup2 X0.here hx rfl (hb hby zq_d12_2) rfl rfl rfl kq) ?_
  show zq_Go p e below s _ _ _ (s₁.setTop (mkF m 3 #[.val (.ref a), .val (.long mm), .second] [(.int (3 : Int32)), (.ref a), (.int (3 : Int32)), (.ref a)]))
  refine zq_go (zq_ldJ X0 hx hZ e0 A_a (j := (3 : Int32)) (i := 3) (by decide) (by decide) (by decide) (g := (mkF m 3 #[.val (.ref a), .val (.long mm), .second] [(.int (3 : Int32)), (.ref a), (.int (3 : Int32)), (.ref a)])) rfl rfl (hb hby zq_d12_3)) ?_
  show zq_Go p e below s _ _ _ (s₁.setTop (mkF m 4 #[.val (.ref a), .val (.long mm), .second] [(.long v.2.2.2), (.int (3 : Int32)), (.ref a)]))
  refine zq_go (fun _ kq => XS.lloadN X0.here hx rfl (hb hby zq_d12_4) rfl kq) ?_
  show zq_Go p e below s _ _ _ (s₁.setTop (mkF m 5 #[.val (.ref a), .val (.long mm), .second] [(.long mm), (.long v.2.2.2), (.int (3 : Int32)), (.ref a)]))
  refine zq_go (fun _ kq => XS.lxor X0.here hx rfl (hb hby zq_d12_5) rfl kq) ?_
  show zq_Go p e below s _ _ _ (s₁.setTop (mkF m 6 #[.val (.ref a), .val (.long mm), .second] [(.long (v.2.2.2 ^^^ mm)), (.int (3 : Int32)), (.ref a)]))
  obtain ⟨T1, h1, X1, e1, W1, A_a, st1⟩ := zq_stJ X0 hx hZ e0 A_a (j := (3 : Int32)) (i := 3) (by decide) (by decide) (by decide) (g := (mkF m 6 #[.val (.ref a), .val (.long mm), .second] [(.long (v.2.2.2 ^^^ mm)), (.int (3 : Int32)), (.ref a)])) rfl rfl (hb hby zq_d12_6)
  refine zq_go st1 ?_
  have ZS := Nat.le_trans ZS (Keep.of_wr W1).1
  have KP := KP.wr W1 (Or.inl (by simp))
  have A_a : zq_A Z h1 a .long 4 (fun k => .long (([v.1, v.2.1, v.2.2.1, (v.2.2.2 ^^^ mm)] : List Int64).getD k 0)) := A_a.congr (fun j hj => by match j, hj with | 0, _ => rfl | 1, _ => rfl | 2, _ => rfl | 3, _ => rfl | (j + 4), hj => exact absurd hj (by omega))
  obtain ⟨L1, X1, NF⟩ : ∃ L : List Loc, Stand p l e ({ frames := 2, cells := 0, slots := 0, locals := 28 } : Room) s m #[(.ref a), (.long mm)] below meth c T1 L 0 0 ∧ Fr n0 L := ⟨_, X1, Fr.snoc X1 NF g_a⟩
  show zq_Go p e below s _ _ _ (T1.setTop (mkF m 7 #[.val (.ref a), .val (.long mm), .second] []))
  refine zq_go (fun _ kq => XS.aloadN X1.here hx rfl (hb hby zq_d12_7) rfl rfl kq) ?_
  show zq_Go p e below s _ _ _ (T1.setTop (mkF m 8 #[.val (.ref a), .val (.long mm), .second] [(.ref a)]))
  obtain ⟨_, T2, L2, X2, ⟨rfl, Nq2, K2, Aq2⟩, st2⟩ := zq_callS (W := 0) X1 hx hZ hown (hw _ (List.mem_of_getElem? (i := 75) rfl)) (hw _ (List.mem_of_getElem? (i := 76) rfl)) (hw _ (List.mem_of_getElem? (i := 59) rfl)) (hw _ (List.mem_of_getElem? (i := 77) rfl)) (by decide) (zq_rmR l Z a0 hw [] a h1 n0 (v.1, v.2.1, v.2.2.1, (v.2.2.2 ^^^ mm)) A_a g_a) e1 (by decide) (by decide) (by decide) (by decide) (g := (mkF m 8 #[.val (.ref a), .val (.long mm), .second] [(.ref a)])) rfl (by rw [hml]; rfl) (argsL := [(.ref a)]) (rest := []) (lenOf zq_pd9 rfl) rfl (by show 2 * 0 + _ ≤ _; exact Nat.le_of_eq rfl) (hb hby zq_d12_8)
  have ZS := Nat.le_trans ZS K2.1
  have KP := KP.trans K2 (allS (P := fun x => x ∈ [a] ∨ h0.size ≤ x) (Or.inl (by simp)) (all0))
  obtain ⟨t2, ht2⟩ : ∃ z : zq_V, z = zq_rd2 (v.1, v.2.1, v.2.2.1, (v.2.2.2 ^^^ mm)) := ⟨_, rfl⟩
  have A_a : zq_A Z T2.heap a .long 4 (fun k => .long (([t2.1, t2.2.1, t2.2.2.1, t2.2.2.2] : List Int64).getD k 0)) := by rw [ht2]; exact Aq2
  obtain ⟨L2, X2, NF⟩ : ∃ L : List Loc, Stand p l e ({ frames := 2, cells := 0, slots := 0, locals := 28 } : Room) s m #[(.ref a), (.long mm)] below meth c T2 L 0 0 ∧ Fr n0 L := ⟨_, X2, Fr.app NF Nq2⟩
  refine zq_go st2 ?_
  show zq_Go p e below s _ _ _ (T2.setTop (mkF m 11 #[.val (.ref a), .val (.long mm), .second] []))
  refine zq_go (fun _ kq => XS.aloadN X2.here hx rfl (hb hby zq_d12_11) rfl rfl kq) ?_
  show zq_Go p e below s _ _ _ (T2.setTop (mkF m 12 #[.val (.ref a), .val (.long mm), .second] [(.ref a)]))
  obtain ⟨_, T3, L3, X3, ⟨rfl, Nq3, K3, Aq3⟩, st3⟩ := zq_callS (W := 0) X2 hx hZ hown (hw _ (List.mem_of_getElem? (i := 75) rfl)) (hw _ (List.mem_of_getElem? (i := 76) rfl)) (hw _ (List.mem_of_getElem? (i := 59) rfl)) (hw _ (List.mem_of_getElem? (i := 77) rfl)) (by decide) (zq_rmR l Z a0 hw [] a T2.heap n0 (t2.1, t2.2.1, t2.2.2.1, t2.2.2.2) A_a g_a) rfl (by decide) (by decide) (by decide) (by decide) (g := (mkF m 12 #[.val (.ref a), .val (.long mm), .second] [(.ref a)])) rfl (by rw [hml]; rfl) (argsL := [(.ref a)]) (rest := []) (lenOf zq_pd9 rfl) rfl (by show 2 * 0 + _ ≤ _; exact Nat.le_of_eq rfl) (hb hby zq_d12_12)
  have ZS := Nat.le_trans ZS K3.1
  have KP := KP.trans K3 (allS (P := fun x => x ∈ [a] ∨ h0.size ≤ x) (Or.inl (by simp)) (all0))
  obtain ⟨t3, ht3⟩ : ∃ z : zq_V, z = zq_rd2 (t2.1, t2.2.1, t2.2.2.1, t2.2.2.2) := ⟨_, rfl⟩
  have A_a : zq_A Z T3.heap a .long 4 (fun k => .long (([t3.1, t3.2.1, t3.2.2.1, t3.2.2.2] : List Int64).getD k 0)) := by rw [ht3]; exact Aq3
  obtain ⟨L3, X3, NF⟩ : ∃ L : List Loc, Stand p l e ({ frames := 2, cells := 0, slots := 0, locals := 28 } : Room) s m #[(.ref a), (.long mm)] below meth c T3 L 0 0 ∧ Fr n0 L := ⟨_, X3, Fr.app NF Nq3⟩
  refine zq_go st3 ?_
  show zq_Go p e below s _ _ _ (T3.setTop (mkF m 15 #[.val (.ref a), .val (.long mm), .second] []))
  refine zq_go (fun _ kq => XS.aloadN X3.here hx rfl (hb hby zq_d12_15) rfl rfl kq) ?_
  show zq_Go p e below s _ _ _ (T3.setTop (mkF m 16 #[.val (.ref a), .val (.long mm), .second] [(.ref a)]))
  refine zq_go (fun _ kq => XS.iconst X3.here hx rfl (hb hby zq_d12_16) kq) ?_
  show zq_Go p e below s _ _ _ (T3.setTop (mkF m 17 #[.val (.ref a), .val (.long mm), .second] [(.int (0 : Int32)), (.ref a)]))
  refine zq_go (fun _ kq => Jvm.Free.XT.dup2 X3.here hx rfl (hb hby zq_d12_17) rfl rfl rfl kq) ?_
  show zq_Go p e below s _ _ _ (T3.setTop (mkF m 18 #[.val (.ref a), .val (.long mm), .second] [(.int (0 : Int32)), (.ref a), (.int (0 : Int32)), (.ref a)]))
  refine zq_go (zq_ldJ X3 hx hZ rfl A_a (j := (0 : Int32)) (i := 0) (by decide) (by decide) (by decide) (g := (mkF m 18 #[.val (.ref a), .val (.long mm), .second] [(.int (0 : Int32)), (.ref a), (.int (0 : Int32)), (.ref a)])) rfl rfl (hb hby zq_d12_18)) ?_
  show zq_Go p e below s _ _ _ (T3.setTop (mkF m 19 #[.val (.ref a), .val (.long mm), .second] [(.long t3.1), (.int (0 : Int32)), (.ref a)]))
  refine zq_go (fun _ kq => XS.lloadN X3.here hx rfl (hb hby zq_d12_19) rfl kq) ?_
  show zq_Go p e below s _ _ _ (T3.setTop (mkF m 20 #[.val (.ref a), .val (.long mm), .second] [(.long mm), (.long t3.1), (.int (0 : Int32)), (.ref a)]))
  refine zq_go (fun _ kq => XS.lxor X3.here hx rfl (hb hby zq_d12_20) rfl kq) ?_
  show zq_Go p e below s _ _ _ (T3.setTop (mkF m 21 #[.val (.ref a), .val (.long mm), .second] [(.long (t3.1 ^^^ mm)), (.int (0 : Int32)), (.ref a)]))
  obtain ⟨T4, h4, X4, e4, W4, A_a, st4⟩ := zq_stJ X3 hx hZ rfl A_a (j := (0 : Int32)) (i := 0) (by decide) (by decide) (by decide) (g := (mkF m 21 #[.val (.ref a), .val (.long mm), .second] [(.long (t3.1 ^^^ mm)), (.int (0 : Int32)), (.ref a)])) rfl rfl (hb hby zq_d12_21)
  refine zq_go st4 ?_
  have ZS := Nat.le_trans ZS (Keep.of_wr W4).1
  have KP := KP.wr W4 (Or.inl (by simp))
  have A_a : zq_A Z h4 a .long 4 (fun k => .long (([(t3.1 ^^^ mm), t3.2.1, t3.2.2.1, t3.2.2.2] : List Int64).getD k 0)) := A_a.congr (fun j hj => by match j, hj with | 0, _ => rfl | 1, _ => rfl | 2, _ => rfl | 3, _ => rfl | (j + 4), hj => exact absurd hj (by omega))
  obtain ⟨L4, X4, NF⟩ : ∃ L : List Loc, Stand p l e ({ frames := 2, cells := 0, slots := 0, locals := 28 } : Room) s m #[(.ref a), (.long mm)] below meth c T4 L 0 0 ∧ Fr n0 L := ⟨_, X4, Fr.snoc X4 NF g_a⟩
  show zq_Go p e below s _ _ _ (T4.setTop (mkF m 22 #[.val (.ref a), .val (.long mm), .second] []))
  exact zq_ret0 X4 hx hlk hret (hb hby zq_d12_22) (by rw [e4]; subst ht3; subst ht2; exact ⟨rfl, NF, KP, A_a⟩) (by decide) (by decide)
theorem zq_d11_0 : decode method_4_code 0 = .ok (.iload_n 2, 1) := by decide +kernel
theorem zq_d11_1 : decode method_4_code 1 = .ok (.iconst 2, 1) := by decide +kernel
theorem zq_d11_2 : decode method_4_code 2 = .ok (.iload_n 1, 1) := by decide +kernel
theorem zq_d11_3 : decode method_4_code 3 = .ok (.imul, 1) := by decide +kernel
theorem zq_d11_4 : decode method_4_code 4 = .ok (.if_icmp .lt 5, 3) := by decide +kernel
theorem zq_d11_7 : decode method_4_code 7 = .ok (.lconst 0, 1) := by decide +kernel
theorem zq_d11_8 : decode method_4_code 8 = .ok (.lreturn, 1) := by decide +kernel
theorem zq_d11_9 : decode method_4_code 9 = .ok (.aload_n 0, 1) := by decide +kernel
theorem zq_d11_10 : decode method_4_code 10 = .ok (.iload_n 2, 1) := by decide +kernel
theorem zq_d11_11 : decode method_4_code 11 = .ok (.iconst 1, 1) := by decide +kernel
theorem zq_d11_12 : decode method_4_code 12 = .ok (.ishr, 1) := by decide +kernel
theorem zq_d11_13 : decode method_4_code 13 = .ok (.caload, 1) := by decide +kernel
theorem zq_d11_14 : decode method_4_code 14 = .ok (.istore_n 3, 1) := by decide +kernel
theorem zq_d11_15 : decode method_4_code 15 = .ok (.iload_n 2, 1) := by decide +kernel
theorem zq_d11_16 : decode method_4_code 16 = .ok (.iconst 1, 1) := by decide +kernel
theorem zq_d11_17 : decode method_4_code 17 = .ok (.iand, 1) := by decide +kernel
theorem zq_d11_18 : decode method_4_code 18 = .ok (.ifCond .ne 10, 3) := by decide +kernel
theorem zq_d11_21 : decode method_4_code 21 = .ok (.iload_n 3, 1) := by decide +kernel
theorem zq_d11_22 : decode method_4_code 22 = .ok (.sipush 255, 3) := by decide +kernel
theorem zq_d11_25 : decode method_4_code 25 = .ok (.iand, 1) := by decide +kernel
theorem zq_d11_26 : decode method_4_code 26 = .ok (.i2l, 1) := by decide +kernel
theorem zq_d11_27 : decode method_4_code 27 = .ok (.lreturn, 1) := by decide +kernel
theorem zq_d11_28 : decode method_4_code 28 = .ok (.iload_n 3, 1) := by decide +kernel
theorem zq_d11_29 : decode method_4_code 29 = .ok (.bipush 8, 2) := by decide +kernel
theorem zq_d11_31 : decode method_4_code 31 = .ok (.iushr, 1) := by decide +kernel
theorem zq_d11_32 : decode method_4_code 32 = .ok (.sipush 255, 3) := by decide +kernel
theorem zq_d11_35 : decode method_4_code 35 = .ok (.iand, 1) := by decide +kernel
theorem zq_d11_36 : decode method_4_code 36 = .ok (.i2l, 1) := by decide +kernel
theorem zq_d11_37 : decode method_4_code 37 = .ok (.lreturn, 1) := by decide +kernel
theorem zq_ef11 (m : MethodId) (x0 : Addr) (x1 : Int32) (x2 : Int32) : entryFrame m #[(.ref x0), (.int x1), (.int x2)] 4 = mkF m 0 #[.val (.ref x0), .val (.int x1), .val (.int x2), .unset] [] := by first | (simp [entryFrame, mkF, argsToLocals, Value.category]; done) | rfl
set_option maxRecDepth 65536 in
set_option maxHeartbeats 40000000 in
theorem zq_rmB (l : Launch) (Z : State) (a0 : Array Value) (hw : ∀ d ∈ tables_1, d.before a0 Z = true) (ws : List Jvm.Cond) (ca : Addr) (n : Int32) (j : Int32) (h0 : Heap) (cc : Nat → Int32) (A_ca : zq_A Z h0 ca .char 7 (fun k => .int (cc k))) (hj : j < (2 : Int32) * n → ¬ (j >>> ((1 : Int32) &&& 31)) < 0 ∧ (j >>> ((1 : Int32) &&& 31)).toNatClampNeg < 7) :
    zq_Met l Z (⟨"com/example/clearline/clearline/formats/TableHashOfPinLaw", "byteAt", "([CII)J"⟩ : MethodName) method_4_code 4 (some .long) ws ({ frames := 0, cells := 0, slots := 0, locals := 0 } : Room) #[(.ref ca), (.int n), (.int j)] h0 (zq_pure (.long (zq_by cc n j)) h0) := by
  refine zq_body (plainFor_of_name zq_pn1) ?_
  intro p e s m below meth c s₁ hx hZ hby hml hret hlk hown hnm X0 e0
  refine zq_go (fun _ kq => castTop (zq_ef11 m ca n j) kq) ?_
  show zq_Go p e below s _ _ _ (s₁.setTop (mkF m 0 #[.val (.ref ca), .val (.int n), .val (.int j), .unset] []))
  refine zq_go (fun _ kq => XS.iloadN X0.here hx rfl (hb hby zq_d11_0) rfl kq) ?_
  show zq_Go p e below s _ _ _ (s₁.setTop (mkF m 1 #[.val (.ref ca), .val (.int n), .val (.int j), .unset] [(.int j)]))
  refine zq_go (fun _ kq => XS.iconst X0.here hx rfl (hb hby zq_d11_1) kq) ?_
  show zq_Go p e below s _ _ _ (s₁.setTop (mkF m 2 #[.val (.ref ca), .val (.int n), .val (.int j), .unset] [(.int (2 : Int32)), (.int j)]))
  refine zq_go (fun _ kq => XS.iloadN X0.here hx rfl (hb hby zq_d11_2) rfl kq) ?_
  show zq_Go p e below s _ _ _ (s₁.setTop (mkF m 3 #[.val (.ref ca), .val (.int n), .val (.int j), .unset] [(.int n), (.int (2 : Int32)), (.int j)]))
  refine zq_go (fun _ kq => XS.imul X0.here hx rfl (hb hby zq_d11_3) rfl kq) ?_
  show zq_Go p e below s _ _ _ (s₁.setTop (mkF m 4 #[.val (.ref ca), .val (.int n), .val (.int j), .unset] [(.int ((2 : Int32) * n)), (.int j)]))
  by_cases hc4 : j < ((2 : Int32) * n)
  ·
    refine zq_go (fun _ kq => XS.icmpYes X0.here hx rfl (pc0 := 4) (pc' := 9) rfl (hb hby zq_d11_4) rfl (tlt hc4).1 (by decide) (by decide) kq) ?_
    show zq_Go p e below s _ _ _ (s₁.setTop (mkF m 9 #[.val (.ref ca), .val (.int n), .val (.int j), .unset] []))
    refine zq_go (fun _ kq => XS.aloadN X0.here hx rfl (hb hby zq_d11_9) rfl rfl kq) ?_
    show zq_Go p e below s _ _ _ (s₁.setTop (mkF m 10 #[.val (.ref ca), .val (.int n), .val (.int j), .unset] [(.ref ca)]))
    refine zq_go (fun _ kq => XS.iloadN X0.here hx rfl (hb hby zq_d11_10) rfl kq) ?_
    show zq_Go p e below s _ _ _ (s₁.setTop (mkF m 11 #[.val (.ref ca), .val (.int n), .val (.int j), .unset] [(.int j), (.ref ca)]))
    refine zq_go (fun _ kq => XS.iconst X0.here hx rfl (hb hby zq_d11_11) kq) ?_
    show zq_Go p e below s _ _ _ (s₁.setTop (mkF m 12 #[.val (.ref ca), .val (.int n), .val (.int j), .unset] [(.int (1 : Int32)), (.int j), (.ref ca)]))
    refine zq_go (fun _ kq => XS.ishr X0.here hx rfl (hb hby zq_d11_12) rfl kq) ?_
    show zq_Go p e below s _ _ _ (s₁.setTop (mkF m 13 #[.val (.ref ca), .val (.int n), .val (.int j), .unset] [(.int (j >>> ((1 : Int32) &&& 31))), (.ref ca)]))
    refine zq_go (zq_ldC X0 hx hZ e0 A_ca (j := (j >>> ((1 : Int32) &&& 31))) (i := (j >>> ((1 : Int32) &&& 31)).toNatClampNeg) rfl (hj hc4).1 (hj hc4).2 (g := (mkF m 13 #[.val (.ref ca), .val (.int n), .val (.int j), .unset] [(.int (j >>> ((1 : Int32) &&& 31))), (.ref ca)])) rfl rfl (hb hby zq_d11_13)) ?_
    show zq_Go p e below s _ _ _ (s₁.setTop (mkF m 14 #[.val (.ref ca), .val (.int n), .val (.int j), .unset] [(.int (cc (j >>> ((1 : Int32) &&& 31)).toNatClampNeg))]))
    refine zq_go (fun _ kq => XS.istoreN X0.here hx rfl (hb hby zq_d11_14) rfl (l' := #[.val (.ref ca), .val (.int n), .val (.int j), .val (.int (cc (j >>> ((1 : Int32) &&& 31)).toNatClampNeg))]) rfl kq) ?_
    show zq_Go p e below s _ _ _ (s₁.setTop (mkF m 15 #[.val (.ref ca), .val (.int n), .val (.int j), .val (.int (cc (j >>> ((1 : Int32) &&& 31)).toNatClampNeg))] []))
    refine zq_go (fun _ kq => XS.iloadN X0.here hx rfl (hb hby zq_d11_15) rfl kq) ?_
    show zq_Go p e below s _ _ _ (s₁.setTop (mkF m 16 #[.val (.ref ca), .val (.int n), .val (.int j), .val (.int (cc (j >>> ((1 : Int32) &&& 31)).toNatClampNeg))] [(.int j)]))
    refine zq_go (fun _ kq => XS.iconst X0.here hx rfl (hb hby zq_d11_16) kq) ?_
    show zq_Go p e below s _ _ _ (s₁.setTop (mkF m 17 #[.val (.ref ca), .val (.int n), .val (.int j), .val (.int (cc (j >>> ((1 : Int32) &&& 31)).toNatClampNeg))] [(.int (1 : Int32)), (.int j)]))
    refine zq_go (fun _ kq => XS.iand X0.here hx rfl (hb hby zq_d11_17) rfl kq) ?_
    show zq_Go p e below s _ _ _ (s₁.setTop (mkF m 18 #[.val (.ref ca), .val (.int n), .val (.int j), .val (.int (cc (j >>> ((1 : Int32) &&& 31)).toNatClampNeg))] [(.int (j &&& (1 : Int32)))]))
    by_cases hc18 : (j &&& (1 : Int32)) = (0 : Int32)
    ·
      refine zq_go (fun _ kq => XS.ifNo X0.here hx rfl (hb hby zq_d11_18) rfl ((if0 _ _).trans (teq hc18).2) kq) ?_
      show zq_Go p e below s _ _ _ (s₁.setTop (mkF m 21 #[.val (.ref ca), .val (.int n), .val (.int j), .val (.int (cc (j >>> ((1 : Int32) &&& 31)).toNatClampNeg))] []))
      refine zq_go (fun _ kq => XS.iloadN X0.here hx rfl (hb hby zq_d11_21) rfl kq) ?_
      show zq_Go p e below s _ _ _ (s₁.setTop (mkF m 22 #[.val (.ref ca), .val (.int n), .val (.int j), .val (.int (cc (j >>> ((1 : Int32) &&& 31)).toNatClampNeg))] [(.int (cc (j >>> ((1 : Int32) &&& 31)).toNatClampNeg))]))
      refine zq_go (fun _ kq => XS.sipush X0.here hx rfl (hb hby zq_d11_22) kq) ?_
      show zq_Go p e below s _ _ _ (s₁.setTop (mkF m 25 #[.val (.ref ca), .val (.int n), .val (.int j), .val (.int (cc (j >>> ((1 : Int32) &&& 31)).toNatClampNeg))] [(.int (255 : Int32)), (.int (cc (j >>> ((1 : Int32) &&& 31)).toNatClampNeg))]))
      refine zq_go (fun _ kq => XS.iand X0.here hx rfl (hb hby zq_d11_25) rfl kq) ?_
      show zq_Go p e below s _ _ _ (s₁.setTop (mkF m 26 #[.val (.ref ca), .val (.int n), .val (.int j), .val (.int (cc (j >>> ((1 : Int32) &&& 31)).toNatClampNeg))] [(.int ((cc (j >>> ((1 : Int32) &&& 31)).toNatClampNeg) &&& (255 : Int32)))]))
      refine zq_go (fun _ kq => XS.i2l X0.here hx rfl (hb hby zq_d11_26) rfl kq) ?_
      show zq_Go p e below s _ _ _ (s₁.setTop (mkF m 27 #[.val (.ref ca), .val (.int n), .val (.int j), .val (.int (cc (j >>> ((1 : Int32) &&& 31)).toNatClampNeg))] [(.long (((cc (j >>> ((1 : Int32) &&& 31)).toNatClampNeg) &&& (255 : Int32)).toInt64))]))
      exact zq_retJ X0 hx hlk hret (hb hby zq_d11_27) ⟨by unfold zq_by; rw [if_pos hc4, if_pos hc18] <;> rfl, rfl, e0⟩ (by decide) (by decide)
    refine zq_go (fun _ kq => XS.ifYes X0.here hx rfl (pc0 := 18) (pc' := 28) rfl (hb hby zq_d11_18) rfl ((if0 _ _).trans (feq hc18).2) (by decide) (by decide) kq) ?_
    show zq_Go p e below s _ _ _ (s₁.setTop (mkF m 28 #[.val (.ref ca), .val (.int n), .val (.int j), .val (.int (cc (j >>> ((1 : Int32) &&& 31)).toNatClampNeg))] []))
    refine zq_go (fun _ kq => XS.iloadN X0.here hx rfl (hb hby zq_d11_28) rfl kq) ?_
    show zq_Go p e below s _ _ _ (s₁.setTop (mkF m 29 #[.val (.ref ca), .val (.int n), .val (.int j), .val (.int (cc (j >>> ((1 : Int32) &&& 31)).toNatClampNeg))] [(.int (cc (j >>> ((1 : Int32) &&& 31)).toNatClampNeg))]))
    refine zq_go (fun _ kq => XS.bipush X0.here hx rfl (hb hby zq_d11_29) kq) ?_
    show zq_Go p e below s _ _ _ (s₁.setTop (mkF m 31 #[.val (.ref ca), .val (.int n), .val (.int j), .val (.int (cc (j >>> ((1 : Int32) &&& 31)).toNatClampNeg))] [(.int (8 : Int32)), (.int (cc (j >>> ((1 : Int32) &&& 31)).toNatClampNeg))]))
    refine zq_go (fun _ kq => XS.iushr X0.here hx rfl (hb hby zq_d11_31) rfl kq) ?_
    show zq_Go p e below s _ _ _ (s₁.setTop (mkF m 32 #[.val (.ref ca), .val (.int n), .val (.int j), .val (.int (cc (j >>> ((1 : Int32) &&& 31)).toNatClampNeg))] [(.int (((cc (j >>> ((1 : Int32) &&& 31)).toNatClampNeg).toUInt32 >>> ((8 : Int32) &&& 31).toUInt32).toInt32))]))
    refine zq_go (fun _ kq => XS.sipush X0.here hx rfl (hb hby zq_d11_32) kq) ?_
    show zq_Go p e below s _ _ _ (s₁.setTop (mkF m 35 #[.val (.ref ca), .val (.int n), .val (.int j), .val (.int (cc (j >>> ((1 : Int32) &&& 31)).toNatClampNeg))] [(.int (255 : Int32)), (.int (((cc (j >>> ((1 : Int32) &&& 31)).toNatClampNeg).toUInt32 >>> ((8 : Int32) &&& 31).toUInt32).toInt32))]))
    refine zq_go (fun _ kq => XS.iand X0.here hx rfl (hb hby zq_d11_35) rfl kq) ?_
    show zq_Go p e below s _ _ _ (s₁.setTop (mkF m 36 #[.val (.ref ca), .val (.int n), .val (.int j), .val (.int (cc (j >>> ((1 : Int32) &&& 31)).toNatClampNeg))] [(.int ((((cc (j >>> ((1 : Int32) &&& 31)).toNatClampNeg).toUInt32 >>> ((8 : Int32) &&& 31).toUInt32).toInt32) &&& (255 : Int32)))]))
    refine zq_go (fun _ kq => XS.i2l X0.here hx rfl (hb hby zq_d11_36) rfl kq) ?_
    show zq_Go p e below s _ _ _ (s₁.setTop (mkF m 37 #[.val (.ref ca), .val (.int n), .val (.int j), .val (.int (cc (j >>> ((1 : Int32) &&& 31)).toNatClampNeg))] [(.long (((((cc (j >>> ((1 : Int32) &&& 31)).toNatClampNeg).toUInt32 >>> ((8 : Int32) &&& 31).toUInt32).toInt32) &&& (255 : Int32)).toInt64))]))
    exact zq_retJ X0 hx hlk hret (hb hby zq_d11_37) ⟨by unfold zq_by; rw [if_pos hc4, if_neg hc18] <;> rfl, rfl, e0⟩ (by decide) (by decide)
  refine zq_go (fun _ kq => XS.icmpNo X0.here hx rfl (hb hby zq_d11_4) rfl (flt hc4).1 kq) ?_
  show zq_Go p e below s _ _ _ (s₁.setTop (mkF m 7 #[.val (.ref ca), .val (.int n), .val (.int j), .unset] []))
  refine zq_go (fun _ kq => XS.lconst X0.here hx rfl (hb hby zq_d11_7) kq) ?_
  show zq_Go p e below s _ _ _ (s₁.setTop (mkF m 8 #[.val (.ref ca), .val (.int n), .val (.int j), .unset] [(.long (0 : Int64))]))
  exact zq_retJ X0 hx hlk hret (hb hby zq_d11_8) ⟨by unfold zq_by; rw [if_neg hc4] <;> rfl, rfl, e0⟩ (by decide) (by decide)
theorem zq_pd10 : parseMethodDescriptor "([CII)J" = some ⟨[(.array .char), .int, .int], some .long⟩ := by decide +kernel
theorem zq_d10_0 : decode method_5_code 0 = .ok (.aload_n 0, 1) := by decide +kernel
theorem zq_d10_1 : decode method_5_code 1 = .ok (.iload_n 1, 1) := by decide +kernel
theorem zq_d10_2 : decode method_5_code 2 = .ok (.iload_n 2, 1) := by decide +kernel
theorem zq_d10_3 : decode method_5_code 3 = .ok (.invokestatic 44, 3) := by decide +kernel
theorem zq_d10_6 : decode method_5_code 6 = .ok (.aload_n 0, 1) := by decide +kernel
theorem zq_d10_7 : decode method_5_code 7 = .ok (.iload_n 1, 1) := by decide +kernel
theorem zq_d10_8 : decode method_5_code 8 = .ok (.iload_n 2, 1) := by decide +kernel
theorem zq_d10_9 : decode method_5_code 9 = .ok (.iconst 1, 1) := by decide +kernel
theorem zq_d10_10 : decode method_5_code 10 = .ok (.iadd, 1) := by decide +kernel
theorem zq_d10_11 : decode method_5_code 11 = .ok (.invokestatic 44, 3) := by decide +kernel
theorem zq_d10_14 : decode method_5_code 14 = .ok (.bipush 8, 2) := by decide +kernel
theorem zq_d10_16 : decode method_5_code 16 = .ok (.lshl, 1) := by decide +kernel
theorem zq_d10_17 : decode method_5_code 17 = .ok (.lor, 1) := by decide +kernel
theorem zq_d10_18 : decode method_5_code 18 = .ok (.aload_n 0, 1) := by decide +kernel
theorem zq_d10_19 : decode method_5_code 19 = .ok (.iload_n 1, 1) := by decide +kernel
theorem zq_d10_20 : decode method_5_code 20 = .ok (.iload_n 2, 1) := by decide +kernel
theorem zq_d10_21 : decode method_5_code 21 = .ok (.iconst 2, 1) := by decide +kernel
theorem zq_d10_22 : decode method_5_code 22 = .ok (.iadd, 1) := by decide +kernel
theorem zq_d10_23 : decode method_5_code 23 = .ok (.invokestatic 44, 3) := by decide +kernel
theorem zq_d10_26 : decode method_5_code 26 = .ok (.bipush 16, 2) := by decide +kernel
theorem zq_d10_28 : decode method_5_code 28 = .ok (.lshl, 1) := by decide +kernel
theorem zq_d10_29 : decode method_5_code 29 = .ok (.lor, 1) := by decide +kernel
theorem zq_d10_30 : decode method_5_code 30 = .ok (.aload_n 0, 1) := by decide +kernel
theorem zq_d10_31 : decode method_5_code 31 = .ok (.iload_n 1, 1) := by decide +kernel
theorem zq_d10_32 : decode method_5_code 32 = .ok (.iload_n 2, 1) := by decide +kernel
theorem zq_d10_33 : decode method_5_code 33 = .ok (.iconst 3, 1) := by decide +kernel
theorem zq_d10_34 : decode method_5_code 34 = .ok (.iadd, 1) := by decide +kernel
theorem zq_d10_35 : decode method_5_code 35 = .ok (.invokestatic 44, 3) := by decide +kernel
theorem zq_d10_38 : decode method_5_code 38 = .ok (.bipush 24, 2) := by decide +kernel
theorem zq_d10_40 : decode method_5_code 40 = .ok (.lshl, 1) := by decide +kernel
theorem zq_d10_41 : decode method_5_code 41 = .ok (.lor, 1) := by decide +kernel
theorem zq_d10_42 : decode method_5_code 42 = .ok (.aload_n 0, 1) := by decide +kernel
theorem zq_d10_43 : decode method_5_code 43 = .ok (.iload_n 1, 1) := by decide +kernel
theorem zq_d10_44 : decode method_5_code 44 = .ok (.iload_n 2, 1) := by decide +kernel
theorem zq_d10_45 : decode method_5_code 45 = .ok (.iconst 4, 1) := by decide +kernel
theorem zq_d10_46 : decode method_5_code 46 = .ok (.iadd, 1) := by decide +kernel
theorem zq_d10_47 : decode method_5_code 47 = .ok (.invokestatic 44, 3) := by decide +kernel
theorem zq_d10_50 : decode method_5_code 50 = .ok (.bipush 32, 2) := by decide +kernel
theorem zq_d10_52 : decode method_5_code 52 = .ok (.lshl, 1) := by decide +kernel
theorem zq_d10_53 : decode method_5_code 53 = .ok (.lor, 1) := by decide +kernel
theorem zq_d10_54 : decode method_5_code 54 = .ok (.aload_n 0, 1) := by decide +kernel
theorem zq_d10_55 : decode method_5_code 55 = .ok (.iload_n 1, 1) := by decide +kernel
theorem zq_d10_56 : decode method_5_code 56 = .ok (.iload_n 2, 1) := by decide +kernel
theorem zq_d10_57 : decode method_5_code 57 = .ok (.iconst 5, 1) := by decide +kernel
theorem zq_d10_58 : decode method_5_code 58 = .ok (.iadd, 1) := by decide +kernel
theorem zq_d10_59 : decode method_5_code 59 = .ok (.invokestatic 44, 3) := by decide +kernel
theorem zq_d10_62 : decode method_5_code 62 = .ok (.bipush 40, 2) := by decide +kernel
theorem zq_d10_64 : decode method_5_code 64 = .ok (.lshl, 1) := by decide +kernel
theorem zq_d10_65 : decode method_5_code 65 = .ok (.lor, 1) := by decide +kernel
theorem zq_d10_66 : decode method_5_code 66 = .ok (.aload_n 0, 1) := by decide +kernel
theorem zq_d10_67 : decode method_5_code 67 = .ok (.iload_n 1, 1) := by decide +kernel
theorem zq_d10_68 : decode method_5_code 68 = .ok (.iload_n 2, 1) := by decide +kernel
theorem zq_d10_69 : decode method_5_code 69 = .ok (.bipush 6, 2) := by decide +kernel
theorem zq_d10_71 : decode method_5_code 71 = .ok (.iadd, 1) := by decide +kernel
theorem zq_d10_72 : decode method_5_code 72 = .ok (.invokestatic 44, 3) := by decide +kernel
theorem zq_d10_75 : decode method_5_code 75 = .ok (.bipush 48, 2) := by decide +kernel
theorem zq_d10_77 : decode method_5_code 77 = .ok (.lshl, 1) := by decide +kernel
theorem zq_d10_78 : decode method_5_code 78 = .ok (.lor, 1) := by decide +kernel
theorem zq_d10_79 : decode method_5_code 79 = .ok (.aload_n 0, 1) := by decide +kernel
theorem zq_d10_80 : decode method_5_code 80 = .ok (.iload_n 1, 1) := by decide +kernel
theorem zq_d10_81 : decode method_5_code 81 = .ok (.iload_n 2, 1) := by decide +kernel
theorem zq_d10_82 : decode method_5_code 82 = .ok (.bipush 7, 2) := by decide +kernel
theorem zq_d10_84 : decode method_5_code 84 = .ok (.iadd, 1) := by decide +kernel
theorem zq_d10_85 : decode method_5_code 85 = .ok (.invokestatic 44, 3) := by decide +kernel
theorem zq_d10_88 : decode method_5_code 88 = .ok (.bipush 56, 2) := by decide +kernel
theorem zq_d10_90 : decode method_5_code 90 = .ok (.lshl, 1) := by decide +kernel
theorem zq_d10_91 : decode method_5_code 91 = .ok (.lor, 1) := by decide +kernel
theorem zq_d10_92 : decode method_5_code 92 = .ok (.lreturn, 1) := by decide +kernel
theorem zq_ef10 (m : MethodId) (x0 : Addr) (x1 : Int32) (x2 : Int32) : entryFrame m #[(.ref x0), (.int x1), (.int x2)] 3 = mkF m 0 #[.val (.ref x0), .val (.int x1), .val (.int x2)] [] := by first | (simp [entryFrame, mkF, argsToLocals, Value.category]; done) | rfl
set_option maxRecDepth 65536 in
set_option maxHeartbeats 40000000 in
theorem zq_rmW (l : Launch) (Z : State) (a0 : Array Value) (hw : ∀ d ∈ tables_1, d.before a0 Z = true) (ws : List Jvm.Cond) (ca : Addr) (n : Int32) (b : Int32) (h0 : Heap) (cc : Nat → Int32) (N bb : Nat) (A_ca : zq_A Z h0 ca .char 7 (fun k => .int (cc k))) (hn : n = Nat.toInt32 N) (hb : b = Nat.toInt32 (8 * bb)) (hN : N ≤ 7) (hbb : bb ≤ 1) :
    zq_Met l Z (⟨"com/example/clearline/clearline/formats/TableHashOfPinLaw", "word", "([CII)J"⟩ : MethodName) method_5_code 3 (some .long) ws ({ frames := 1, cells := 0, slots := 0, locals := 17 } : Room) #[(.ref ca), (.int n), (.int b)] h0 (zq_pure (.long (zq_wd cc n b)) h0) := by
  refine zq_body (plainFor_of_name zq_pn1) ?_
  intro p e s m below meth c s₁ hx hZ hby hml hret hlk hown hnm X0 e0
  refine zq_go (fun _ kq => castTop (zq_ef10 m ca n b) kq) ?_
  subst hn hb
  show zq_Go p e below s _ _ _ (s₁.setTop (mkF m 0 #[.val (.ref ca), .val (.int (Nat.toInt32 N)), .val (.int (Nat.toInt32 (8 * bb)))] []))
  refine zq_go (fun _ kq => XS.aloadN X0.here hx rfl (hb hby zq_d10_0) rfl rfl kq) ?_
  show zq_Go p e below s _ _ _ (s₁.setTop (mkF m 1 #[.val (.ref ca), .val (.int (Nat.toInt32 N)), .val (.int (Nat.toInt32 (8 * bb)))] [(.ref ca)]))
  refine zq_go (fun _ kq => XS.iloadN X0.here hx rfl (hb hby zq_d10_1) rfl kq) ?_
  show zq_Go p e below s _ _ _ (s₁.setTop (mkF m 2 #[.val (.ref ca), .val (.int (Nat.toInt32 N)), .val (.int (Nat.toInt32 (8 * bb)))] [(.int (Nat.toInt32 N)), (.ref ca)]))
  refine zq_go (fun _ kq => XS.iloadN X0.here hx rfl (hb hby zq_d10_2) rfl kq) ?_
  show zq_Go p e below s _ _ _ (s₁.setTop (mkF m 3 #[.val (.ref ca), .val (.int (Nat.toInt32 N)), .val (.int (Nat.toInt32 (8 * bb)))] [(.int (Nat.toInt32 (8 * bb))), (.int (Nat.toInt32 N)), (.ref ca)]))
  obtain ⟨T1, X1, e1, st1⟩ := zq_callP (W := 0) X0 hx hZ hown (hw _ (List.mem_of_getElem? (i := 69) rfl)) (hw _ (List.mem_of_getElem? (i := 70) rfl)) (hw _ (List.mem_of_getElem? (i := 59) rfl)) (hw _ (List.mem_of_getElem? (i := 71) rfl)) (by decide) (zq_rmB l Z a0 hw [] ca (Nat.toInt32 N) (Nat.toInt32 (8 * bb)) h0 cc A_ca (by have q := zq_rg (k := 0) hN (by decide) hbb; rw [show Nat.toInt32 (8 * bb) + Nat.toInt32 0 = Nat.toInt32 (8 * bb) from Int32.add_zero _] at q; exact q)) e0 (by decide) (by decide) rfl rfl (by decide) (by decide) (g := (mkF m 3 #[.val (.ref ca), .val (.int (Nat.toInt32 N)), .val (.int (Nat.toInt32 (8 * bb)))] [(.int (Nat.toInt32 (8 * bb))), (.int (Nat.toInt32 N)), (.ref ca)])) rfl (by rw [hml]; rfl) (argsL := [(.ref ca), (.int (Nat.toInt32 N)), (.int (Nat.toInt32 (8 * bb)))]) (rest := []) (lenOf zq_pd10 rfl) rfl (by show 2 * 0 + _ ≤ _; exact Nat.le_of_eq rfl) (hb hby zq_d10_3)
  refine zq_go st1 ?_
  show zq_Go p e below s _ _ _ (T1.setTop (mkF m 6 #[.val (.ref ca), .val (.int (Nat.toInt32 N)), .val (.int (Nat.toInt32 (8 * bb)))] [(.long (zq_by cc (Nat.toInt32 N) (Nat.toInt32 (8 * bb))))]))
  refine zq_go (fun _ kq => XS.aloadN X1.here hx rfl (hb hby zq_d10_6) rfl rfl kq) ?_
  show zq_Go p e below s _ _ _ (T1.setTop (mkF m 7 #[.val (.ref ca), .val (.int (Nat.toInt32 N)), .val (.int (Nat.toInt32 (8 * bb)))] [(.ref ca), (.long (zq_by cc (Nat.toInt32 N) (Nat.toInt32 (8 * bb))))]))
  refine zq_go (fun _ kq => XS.iloadN X1.here hx rfl (hb hby zq_d10_7) rfl kq) ?_
  show zq_Go p e below s _ _ _ (T1.setTop (mkF m 8 #[.val (.ref ca), .val (.int (Nat.toInt32 N)), .val (.int (Nat.toInt32 (8 * bb)))] [(.int (Nat.toInt32 N)), (.ref ca), (.long (zq_by cc (Nat.toInt32 N) (Nat.toInt32 (8 * bb))))]))
  refine zq_go (fun _ kq => XS.iloadN X1.here hx rfl (hb hby zq_d10_8) rfl kq) ?_
  show zq_Go p e below s _ _ _ (T1.setTop (mkF m 9 #[.val (.ref ca), .val (.int (Nat.toInt32 N)), .val (.int (Nat.toInt32 (8 * bb)))] [(.int (Nat.toInt32 (8 * bb))), (.int (Nat.toInt32 N)), (.ref ca), (.long (zq_by cc (Nat.toInt32 N) (Nat.toInt32 (8 * bb))))]))
  refine zq_go (fun _ kq => XS.iconst X1.here hx rfl (hb hby zq_d10_9) kq) ?_
  show zq_Go p e below s _ _ _ (T1.setTop (mkF m 10 #[.val (.ref ca), .val (.int (Nat.toInt32 N)), .val (.int (Nat.toInt32 (8 * bb)))] [(.int (1 : Int32)), (.int (Nat.toInt32 (8 * bb))), (.int (Nat.toInt32 N)), (.ref ca), (.long (zq_by cc (Nat.toInt32 N) (Nat.toInt32 (8 * bb))))]))
  refine zq_go (fun _ kq => XS.iadd X1.here hx rfl (hb hby zq_d10_10) rfl kq) ?_
  show zq_Go p e below s _ _ _ (T1.setTop (mkF m 11 #[.val (.ref ca), .val (.int (Nat.toInt32 N)), .val (.int (Nat.toInt32 (8 * bb)))] [(.int ((Nat.toInt32 (8 * bb)) + (1 : Int32))), (.int (Nat.toInt32 N)), (.ref ca), (.long (zq_by cc (Nat.toInt32 N) (Nat.toInt32 (8 * bb))))]))
  obtain ⟨T2, X2, e2, st2⟩ := zq_callP (W := 2) X1 hx hZ hown (hw _ (List.mem_of_getElem? (i := 69) rfl)) (hw _ (List.mem_of_getElem? (i := 70) rfl)) (hw _ (List.mem_of_getElem? (i := 59) rfl)) (hw _ (List.mem_of_getElem? (i := 71) rfl)) (by decide) (zq_rmB l Z a0 hw [] ca (Nat.toInt32 N) ((Nat.toInt32 (8 * bb)) + (1 : Int32)) h0 cc A_ca (zq_rg (k := 1) hN (by decide) hbb)) e1 (by decide) (by decide) rfl rfl (by decide) (by decide) (g := (mkF m 11 #[.val (.ref ca), .val (.int (Nat.toInt32 N)), .val (.int (Nat.toInt32 (8 * bb)))] [(.int ((Nat.toInt32 (8 * bb)) + (1 : Int32))), (.int (Nat.toInt32 N)), (.ref ca), (.long (zq_by cc (Nat.toInt32 N) (Nat.toInt32 (8 * bb))))])) rfl (by rw [hml]; rfl) (argsL := [(.ref ca), (.int (Nat.toInt32 N)), (.int ((Nat.toInt32 (8 * bb)) + (1 : Int32)))]) (rest := [(.long (zq_by cc (Nat.toInt32 N) (Nat.toInt32 (8 * bb))))]) (lenOf zq_pd10 rfl) rfl (by show 2 * 0 + _ ≤ _; exact Nat.le_of_eq rfl) (hb hby zq_d10_11)
  refine zq_go st2 ?_
  show zq_Go p e below s _ _ _ (T2.setTop (mkF m 14 #[.val (.ref ca), .val (.int (Nat.toInt32 N)), .val (.int (Nat.toInt32 (8 * bb)))] [(.long (zq_by cc (Nat.toInt32 N) ((Nat.toInt32 (8 * bb)) + (1 : Int32)))), (.long (zq_by cc (Nat.toInt32 N) (Nat.toInt32 (8 * bb))))]))
  refine zq_go (fun _ kq => XS.bipush X2.here hx rfl (hb hby zq_d10_14) kq) ?_
  show zq_Go p e below s _ _ _ (T2.setTop (mkF m 16 #[.val (.ref ca), .val (.int (Nat.toInt32 N)), .val (.int (Nat.toInt32 (8 * bb)))] [(.int (8 : Int32)), (.long (zq_by cc (Nat.toInt32 N) ((Nat.toInt32 (8 * bb)) + (1 : Int32)))), (.long (zq_by cc (Nat.toInt32 N) (Nat.toInt32 (8 * bb))))]))
  refine zq_go (fun _ kq => XS.lshl X2.here hx rfl (hb hby zq_d10_16) rfl kq) ?_
  show zq_Go p e below s _ _ _ (T2.setTop (mkF m 17 #[.val (.ref ca), .val (.int (Nat.toInt32 N)), .val (.int (Nat.toInt32 (8 * bb)))] [(.long ((zq_by cc (Nat.toInt32 N) ((Nat.toInt32 (8 * bb)) + (1 : Int32))) <<< ((8 : Int32) &&& 0x3f).toInt64)), (.long (zq_by cc (Nat.toInt32 N) (Nat.toInt32 (8 * bb))))]))
  refine zq_go (fun _ kq => XS.lor X2.here hx rfl (hb hby zq_d10_17) rfl kq) ?_
  show zq_Go p e below s _ _ _ (T2.setTop (mkF m 18 #[.val (.ref ca), .val (.int (Nat.toInt32 N)), .val (.int (Nat.toInt32 (8 * bb)))] [(.long ((zq_by cc (Nat.toInt32 N) (Nat.toInt32 (8 * bb))) ||| ((zq_by cc (Nat.toInt32 N) ((Nat.toInt32 (8 * bb)) + (1 : Int32))) <<< ((8 : Int32) &&& 0x3f).toInt64)))]))
  refine zq_go (fun _ kq => XS.aloadN X2.here hx rfl (hb hby zq_d10_18) rfl rfl kq) ?_
  show zq_Go p e below s _ _ _ (T2.setTop (mkF m 19 #[.val (.ref ca), .val (.int (Nat.toInt32 N)), .val (.int (Nat.toInt32 (8 * bb)))] [(.ref ca), (.long ((zq_by cc (Nat.toInt32 N) (Nat.toInt32 (8 * bb))) ||| ((zq_by cc (Nat.toInt32 N) ((Nat.toInt32 (8 * bb)) + (1 : Int32))) <<< ((8 : Int32) &&& 0x3f).toInt64)))]))
  refine zq_go (fun _ kq => XS.iloadN X2.here hx rfl (hb hby zq_d10_19) rfl kq) ?_
  show zq_Go p e below s _ _ _ (T2.setTop (mkF m 20 #[.val (.ref ca), .val (.int (Nat.toInt32 N)), .val (.int (Nat.toInt32 (8 * bb)))] [(.int (Nat.toInt32 N)), (.ref ca), (.long ((zq_by cc (Nat.toInt32 N) (Nat.toInt32 (8 * bb))) ||| ((zq_by cc (Nat.toInt32 N) ((Nat.toInt32 (8 * bb)) + (1 : Int32))) <<< ((8 : Int32) &&& 0x3f).toInt64)))]))
  refine zq_go (fun _ kq => XS.iloadN X2.here hx rfl (hb hby zq_d10_20) rfl kq) ?_
  show zq_Go p e below s _ _ _ (T2.setTop (mkF m 21 #[.val (.ref ca), .val (.int (Nat.toInt32 N)), .val (.int (Nat.toInt32 (8 * bb)))] [(.int (Nat.toInt32 (8 * bb))), (.int (Nat.toInt32 N)), (.ref ca), (.long ((zq_by cc (Nat.toInt32 N) (Nat.toInt32 (8 * bb))) ||| ((zq_by cc (Nat.toInt32 N) ((Nat.toInt32 (8 * bb)) + (1 : Int32))) <<< ((8 : Int32) &&& 0x3f).toInt64)))]))
  refine zq_go (fun _ kq => XS.iconst X2.here hx rfl (hb hby zq_d10_21) kq) ?_
  show zq_Go p e below s _ _ _ (T2.setTop (mkF m 22 #[.val (.ref ca), .val (.int (Nat.toInt32 N)), .val (.int (Nat.toInt32 (8 * bb)))] [(.int (2 : Int32)), (.int (Nat.toInt32 (8 * bb))), (.int (Nat.toInt32 N)), (.ref ca), (.long ((zq_by cc (Nat.toInt32 N) (Nat.toInt32 (8 * bb))) ||| ((zq_by cc (Nat.toInt32 N) ((Nat.toInt32 (8 * bb)) + (1 : Int32))) <<< ((8 : Int32) &&& 0x3f).toInt64)))]))
  refine zq_go (fun _ kq => XS.iadd X2.here hx rfl (hb hby zq_d10_22) rfl kq) ?_
  show zq_Go p e below s _ _ _ (T2.setTop (mkF m 23 #[.val (.ref ca), .val (.int (Nat.toInt32 N)), .val (.int (Nat.toInt32 (8 * bb)))] [(.int ((Nat.toInt32 (8 * bb)) + (2 : Int32))), (.int (Nat.toInt32 N)), (.ref ca), (.long ((zq_by cc (Nat.toInt32 N) (Nat.toInt32 (8 * bb))) ||| ((zq_by cc (Nat.toInt32 N) ((Nat.toInt32 (8 * bb)) + (1 : Int32))) <<< ((8 : Int32) &&& 0x3f).toInt64)))]))
  obtain ⟨T3, X3, e3, st3⟩ := zq_callP (W := 2) X2 hx hZ hown (hw _ (List.mem_of_getElem? (i := 69) rfl)) (hw _ (List.mem_of_getElem? (i := 70) rfl)) (hw _ (List.mem_of_getElem? (i := 59) rfl)) (hw _ (List.mem_of_getElem? (i := 71) rfl)) (by decide) (zq_rmB l Z a0 hw [] ca (Nat.toInt32 N) ((Nat.toInt32 (8 * bb)) + (2 : Int32)) h0 cc A_ca (zq_rg (k := 2) hN (by decide) hbb)) e2 (by decide) (by decide) rfl rfl (by decide) (by decide) (g := (mkF m 23 #[.val (.ref ca), .val (.int (Nat.toInt32 N)), .val (.int (Nat.toInt32 (8 * bb)))] [(.int ((Nat.toInt32 (8 * bb)) + (2 : Int32))), (.int (Nat.toInt32 N)), (.ref ca), (.long ((zq_by cc (Nat.toInt32 N) (Nat.toInt32 (8 * bb))) ||| ((zq_by cc (Nat.toInt32 N) ((Nat.toInt32 (8 * bb)) + (1 : Int32))) <<< ((8 : Int32) &&& 0x3f).toInt64)))])) rfl (by rw [hml]; rfl) (argsL := [(.ref ca), (.int (Nat.toInt32 N)), (.int ((Nat.toInt32 (8 * bb)) + (2 : Int32)))]) (rest := [(.long ((zq_by cc (Nat.toInt32 N) (Nat.toInt32 (8 * bb))) ||| ((zq_by cc (Nat.toInt32 N) ((Nat.toInt32 (8 * bb)) + (1 : Int32))) <<< ((8 : Int32) &&& 0x3f).toInt64)))]) (lenOf zq_pd10 rfl) rfl (by show 2 * 0 + _ ≤ _; exact Nat.le_of_eq rfl) (hb hby zq_d10_23)
  refine zq_go st3 ?_
  show zq_Go p e below s _ _ _ (T3.setTop (mkF m 26 #[.val (.ref ca), .val (.int (Nat.toInt32 N)), .val (.int (Nat.toInt32 (8 * bb)))] [(.long (zq_by cc (Nat.toInt32 N) ((Nat.toInt32 (8 * bb)) + (2 : Int32)))), (.long ((zq_by cc (Nat.toInt32 N) (Nat.toInt32 (8 * bb))) ||| ((zq_by cc (Nat.toInt32 N) ((Nat.toInt32 (8 * bb)) + (1 : Int32))) <<< ((8 : Int32) &&& 0x3f).toInt64)))]))
  refine zq_go (fun _ kq => XS.bipush X3.here hx rfl (hb hby zq_d10_26) kq) ?_
  show zq_Go p e below s _ _ _ (T3.setTop (mkF m 28 #[.val (.ref ca), .val (.int (Nat.toInt32 N)), .val (.int (Nat.toInt32 (8 * bb)))] [(.int (16 : Int32)), (.long (zq_by cc (Nat.toInt32 N) ((Nat.toInt32 (8 * bb)) + (2 : Int32)))), (.long ((zq_by cc (Nat.toInt32 N) (Nat.toInt32 (8 * bb))) ||| ((zq_by cc (Nat.toInt32 N) ((Nat.toInt32 (8 * bb)) + (1 : Int32))) <<< ((8 : Int32) &&& 0x3f).toInt64)))]))
  refine zq_go (fun _ kq => XS.lshl X3.here hx rfl (hb hby zq_d10_28) rfl kq) ?_
  show zq_Go p e below s _ _ _ (T3.setTop (mkF m 29 #[.val (.ref ca), .val (.int (Nat.toInt32 N)), .val (.int (Nat.toInt32 (8 * bb)))] [(.long ((zq_by cc (Nat.toInt32 N) ((Nat.toInt32 (8 * bb)) + (2 : Int32))) <<< ((16 : Int32) &&& 0x3f).toInt64)), (.long ((zq_by cc (Nat.toInt32 N) (Nat.toInt32 (8 * bb))) ||| ((zq_by cc (Nat.toInt32 N) ((Nat.toInt32 (8 * bb)) + (1 : Int32))) <<< ((8 : Int32) &&& 0x3f).toInt64)))]))
  refine zq_go (fun _ kq => XS.lor X3.here hx rfl (hb hby zq_d10_29) rfl kq) ?_
  show zq_Go p e below s _ _ _ (T3.setTop (mkF m 30 #[.val (.ref ca), .val (.int (Nat.toInt32 N)), .val (.int (Nat.toInt32 (8 * bb)))] [(.long (((zq_by cc (Nat.toInt32 N) (Nat.toInt32 (8 * bb))) ||| ((zq_by cc (Nat.toInt32 N) ((Nat.toInt32 (8 * bb)) + (1 : Int32))) <<< ((8 : Int32) &&& 0x3f).toInt64)) ||| ((zq_by cc (Nat.toInt32 N) ((Nat.toInt32 (8 * bb)) + (2 : Int32))) <<< ((16 : Int32) &&& 0x3f).toInt64)))]))
  refine zq_go (fun _ kq => XS.aloadN X3.here hx rfl (hb hby zq_d10_30) rfl rfl kq) ?_
  show zq_Go p e below s _ _ _ (T3.setTop (mkF m 31 #[.val (.ref ca), .val (.int (Nat.toInt32 N)), .val (.int (Nat.toInt32 (8 * bb)))] [(.ref ca), (.long (((zq_by cc (Nat.toInt32 N) (Nat.toInt32 (8 * bb))) ||| ((zq_by cc (Nat.toInt32 N) ((Nat.toInt32 (8 * bb)) + (1 : Int32))) <<< ((8 : Int32) &&& 0x3f).toInt64)) ||| ((zq_by cc (Nat.toInt32 N) ((Nat.toInt32 (8 * bb)) + (2 : Int32))) <<< ((16 : Int32) &&& 0x3f).toInt64)))]))
  refine zq_go (fun _ kq => XS.iloadN X3.here hx rfl (hb hby zq_d10_31) rfl kq) ?_
  show zq_Go p e below s _ _ _ (T3.setTop (mkF m 32 #[.val (.ref ca), .val (.int (Nat.toInt32 N)), .val (.int (Nat.toInt32 (8 * bb)))] [(.int (Nat.toInt32 N)), (.ref ca), (.long (((zq_by cc (Nat.toInt32 N) (Nat.toInt32 (8 * bb))) ||| ((zq_by cc (Nat.toInt32 N) ((Nat.toInt32 (8 * bb)) + (1 : Int32))) <<< ((8 : Int32) &&& 0x3f).toInt64)) ||| ((zq_by cc (Nat.toInt32 N) ((Nat.toInt32 (8 * bb)) + (2 : Int32))) <<< ((16 : Int32) &&& 0x3f).toInt64)))]))
  refine zq_go (fun _ kq => XS.iloadN X3.here hx rfl (hb hby zq_d10_32) rfl kq) ?_
  show zq_Go p e below s _ _ _ (T3.setTop (mkF m 33 #[.val (.ref ca), .val (.int (Nat.toInt32 N)), .val (.int (Nat.toInt32 (8 * bb)))] [(.int (Nat.toInt32 (8 * bb))), (.int (Nat.toInt32 N)), (.ref ca), (.long (((zq_by cc (Nat.toInt32 N) (Nat.toInt32 (8 * bb))) ||| ((zq_by cc (Nat.toInt32 N) ((Nat.toInt32 (8 * bb)) + (1 : Int32))) <<< ((8 : Int32) &&& 0x3f).toInt64)) ||| ((zq_by cc (Nat.toInt32 N) ((Nat.toInt32 (8 * bb)) + (2 : Int32))) <<< ((16 : Int32) &&& 0x3f).toInt64)))]))
  refine zq_go (fun _ kq => XS.iconst X3.here hx rfl (hb hby zq_d10_33) kq) ?_
  show zq_Go p e below s _ _ _ (T3.setTop (mkF m 34 #[.val (.ref ca), .val (.int (Nat.toInt32 N)), .val (.int (Nat.toInt32 (8 * bb)))] [(.int (3 : Int32)), (.int (Nat.toInt32 (8 * bb))), (.int (Nat.toInt32 N)), (.ref ca), (.long (((zq_by cc (Nat.toInt32 N) (Nat.toInt32 (8 * bb))) ||| ((zq_by cc (Nat.toInt32 N) ((Nat.toInt32 (8 * bb)) + (1 : Int32))) <<< ((8 : Int32) &&& 0x3f).toInt64)) ||| ((zq_by cc (Nat.toInt32 N) ((Nat.toInt32 (8 * bb)) + (2 : Int32))) <<< ((16 : Int32) &&& 0x3f).toInt64)))]))
  refine zq_go (fun _ kq => XS.iadd X3.here hx rfl (hb hby zq_d10_34) rfl kq) ?_
  show zq_Go p e below s _ _ _ (T3.setTop (mkF m 35 #[.val (.ref ca), .val (.int (Nat.toInt32 N)), .val (.int (Nat.toInt32 (8 * bb)))] [(.int ((Nat.toInt32 (8 * bb)) + (3 : Int32))), (.int (Nat.toInt32 N)), (.ref ca), (.long (((zq_by cc (Nat.toInt32 N) (Nat.toInt32 (8 * bb))) ||| ((zq_by cc (Nat.toInt32 N) ((Nat.toInt32 (8 * bb)) + (1 : Int32))) <<< ((8 : Int32) &&& 0x3f).toInt64)) ||| ((zq_by cc (Nat.toInt32 N) ((Nat.toInt32 (8 * bb)) + (2 : Int32))) <<< ((16 : Int32) &&& 0x3f).toInt64)))]))
  obtain ⟨T4, X4, e4, st4⟩ := zq_callP (W := 2) X3 hx hZ hown (hw _ (List.mem_of_getElem? (i := 69) rfl)) (hw _ (List.mem_of_getElem? (i := 70) rfl)) (hw _ (List.mem_of_getElem? (i := 59) rfl)) (hw _ (List.mem_of_getElem? (i := 71) rfl)) (by decide) (zq_rmB l Z a0 hw [] ca (Nat.toInt32 N) ((Nat.toInt32 (8 * bb)) + (3 : Int32)) h0 cc A_ca (zq_rg (k := 3) hN (by decide) hbb)) e3 (by decide) (by decide) rfl rfl (by decide) (by decide) (g := (mkF m 35 #[.val (.ref ca), .val (.int (Nat.toInt32 N)), .val (.int (Nat.toInt32 (8 * bb)))] [(.int ((Nat.toInt32 (8 * bb)) + (3 : Int32))), (.int (Nat.toInt32 N)), (.ref ca), (.long (((zq_by cc (Nat.toInt32 N) (Nat.toInt32 (8 * bb))) ||| ((zq_by cc (Nat.toInt32 N) ((Nat.toInt32 (8 * bb)) + (1 : Int32))) <<< ((8 : Int32) &&& 0x3f).toInt64)) ||| ((zq_by cc (Nat.toInt32 N) ((Nat.toInt32 (8 * bb)) + (2 : Int32))) <<< ((16 : Int32) &&& 0x3f).toInt64)))])) rfl (by rw [hml]; rfl) (argsL := [(.ref ca), (.int (Nat.toInt32 N)), (.int ((Nat.toInt32 (8 * bb)) + (3 : Int32)))]) (rest := [(.long (((zq_by cc (Nat.toInt32 N) (Nat.toInt32 (8 * bb))) ||| ((zq_by cc (Nat.toInt32 N) ((Nat.toInt32 (8 * bb)) + (1 : Int32))) <<< ((8 : Int32) &&& 0x3f).toInt64)) ||| ((zq_by cc (Nat.toInt32 N) ((Nat.toInt32 (8 * bb)) + (2 : Int32))) <<< ((16 : Int32) &&& 0x3f).toInt64)))]) (lenOf zq_pd10 rfl) rfl (by show 2 * 0 + _ ≤ _; exact Nat.le_of_eq rfl) (hb hby zq_d10_35)
  refine zq_go st4 ?_
  show zq_Go p e below s _ _ _ (T4.setTop (mkF m 38 #[.val (.ref ca), .val (.int (Nat.toInt32 N)), .val (.int (Nat.toInt32 (8 * bb)))] [(.long (zq_by cc (Nat.toInt32 N) ((Nat.toInt32 (8 * bb)) + (3 : Int32)))), (.long (((zq_by cc (Nat.toInt32 N) (Nat.toInt32 (8 * bb))) ||| ((zq_by cc (Nat.toInt32 N) ((Nat.toInt32 (8 * bb)) + (1 : Int32))) <<< ((8 : Int32) &&& 0x3f).toInt64)) ||| ((zq_by cc (Nat.toInt32 N) ((Nat.toInt32 (8 * bb)) + (2 : Int32))) <<< ((16 : Int32) &&& 0x3f).toInt64)))]))
  refine zq_go (fun _ kq => XS.bipush X4.here hx rfl (hb hby zq_d10_38) kq) ?_
  show zq_Go p e below s _ _ _ (T4.setTop (mkF m 40 #[.val (.ref ca), .val (.int (Nat.toInt32 N)), .val (.int (Nat.toInt32 (8 * bb)))] [(.int (24 : Int32)), (.long (zq_by cc (Nat.toInt32 N) ((Nat.toInt32 (8 * bb)) + (3 : Int32)))), (.long (((zq_by cc (Nat.toInt32 N) (Nat.toInt32 (8 * bb))) ||| ((zq_by cc (Nat.toInt32 N) ((Nat.toInt32 (8 * bb)) + (1 : Int32))) <<< ((8 : Int32) &&& 0x3f).toInt64)) ||| ((zq_by cc (Nat.toInt32 N) ((Nat.toInt32 (8 * bb)) + (2 : Int32))) <<< ((16 : Int32) &&& 0x3f).toInt64)))]))
  refine zq_go (fun _ kq => XS.lshl X4.here hx rfl (hb hby zq_d10_40) rfl kq) ?_
  show zq_Go p e below s _ _ _ (T4.setTop (mkF m 41 #[.val (.ref ca), .val (.int (Nat.toInt32 N)), .val (.int (Nat.toInt32 (8 * bb)))] [(.long ((zq_by cc (Nat.toInt32 N) ((Nat.toInt32 (8 * bb)) + (3 : Int32))) <<< ((24 : Int32) &&& 0x3f).toInt64)), (.long (((zq_by cc (Nat.toInt32 N) (Nat.toInt32 (8 * bb))) ||| ((zq_by cc (Nat.toInt32 N) ((Nat.toInt32 (8 * bb)) + (1 : Int32))) <<< ((8 : Int32) &&& 0x3f).toInt64)) ||| ((zq_by cc (Nat.toInt32 N) ((Nat.toInt32 (8 * bb)) + (2 : Int32))) <<< ((16 : Int32) &&& 0x3f).toInt64)))]))
  refine zq_go (fun _ kq => XS.lor X4.here hx rfl (hb hby zq_d10_41) rfl kq) ?_
  show zq_Go p e below s _ _ _ (T4.setTop (mkF m 42 #[.val (.ref ca), .val (.int (Nat.toInt32 N)), .val (.int (Nat.toInt32 (8 * bb)))] [(.long ((((zq_by cc (Nat.toInt32 N) (Nat.toInt32 (8 * bb))) ||| ((zq_by cc (Nat.toInt32 N) ((Nat.toInt32 (8 * bb)) + (1 : Int32))) <<< ((8 : Int32) &&& 0x3f).toInt64)) ||| ((zq_by cc (Nat.toInt32 N) ((Nat.toInt32 (8 * bb)) + (2 : Int32))) <<< ((16 : Int32) &&& 0x3f).toInt64)) ||| ((zq_by cc (Nat.toInt32 N) ((Nat.toInt32 (8 * bb)) + (3 : Int32))) <<< ((24 : Int32) &&& 0x3f).toInt64)))]))
  refine zq_go (fun _ kq => XS.aloadN X4.here hx rfl (hb hby zq_d10_42) rfl rfl kq) ?_
  show zq_Go p e below s _ _ _ (T4.setTop (mkF m 43 #[.val (.ref ca), .val (.int (Nat.toInt32 N)), .val (.int (Nat.toInt32 (8 * bb)))] [(.ref ca), (.long ((((zq_by cc (Nat.toInt32 N) (Nat.toInt32 (8 * bb))) ||| ((zq_by cc (Nat.toInt32 N) ((Nat.toInt32 (8 * bb)) + (1 : Int32))) <<< ((8 : Int32) &&& 0x3f).toInt64)) ||| ((zq_by cc (Nat.toInt32 N) ((Nat.toInt32 (8 * bb)) + (2 : Int32))) <<< ((16 : Int32) &&& 0x3f).toInt64)) ||| ((zq_by cc (Nat.toInt32 N) ((Nat.toInt32 (8 * bb)) + (3 : Int32))) <<< ((24 : Int32) &&& 0x3f).toInt64)))]))
  refine zq_go (fun _ kq => XS.iloadN X4.here hx rfl (hb hby zq_d10_43) rfl kq) ?_
  show zq_Go p e below s _ _ _ (T4.setTop (mkF m 44 #[.val (.ref ca), .val (.int (Nat.toInt32 N)), .val (.int (Nat.toInt32 (8 * bb)))] [(.int (Nat.toInt32 N)), (.ref ca), (.long ((((zq_by cc (Nat.toInt32 N) (Nat.toInt32 (8 * bb))) ||| ((zq_by cc (Nat.toInt32 N) ((Nat.toInt32 (8 * bb)) + (1 : Int32))) <<< ((8 : Int32) &&& 0x3f).toInt64)) ||| ((zq_by cc (Nat.toInt32 N) ((Nat.toInt32 (8 * bb)) + (2 : Int32))) <<< ((16 : Int32) &&& 0x3f).toInt64)) ||| ((zq_by cc (Nat.toInt32 N) ((Nat.toInt32 (8 * bb)) + (3 : Int32))) <<< ((24 : Int32) &&& 0x3f).toInt64)))]))
  refine zq_go (fun _ kq => XS.iloadN X4.here hx rfl (hb hby zq_d10_44) rfl kq) ?_
  show zq_Go p e below s _ _ _ (T4.setTop (mkF m 45 #[.val (.ref ca), .val (.int (Nat.toInt32 N)), .val (.int (Nat.toInt32 (8 * bb)))] [(.int (Nat.toInt32 (8 * bb))), (.int (Nat.toInt32 N)), (.ref ca), (.long ((((zq_by cc (Nat.toInt32 N) (Nat.toInt32 (8 * bb))) ||| ((zq_by cc (Nat.toInt32 N) ((Nat.toInt32 (8 * bb)) + (1 : Int32))) <<< ((8 : Int32) &&& 0x3f).toInt64)) ||| ((zq_by cc (Nat.toInt32 N) ((Nat.toInt32 (8 * bb)) + (2 : Int32))) <<< ((16 : Int32) &&& 0x3f).toInt64)) ||| ((zq_by cc (Nat.toInt32 N) ((Nat.toInt32 (8 * bb)) + (3 : Int32))) <<< ((24 : Int32) &&& 0x3f).toInt64)))]))
  refine zq_go (fun _ kq => XS.iconst X4.here hx rfl (hb hby zq_d10_45) kq) ?_
  show zq_Go p e below s _ _ _ (T4.setTop (mkF m 46 #[.val (.ref ca), .val (.int (Nat.toInt32 N)), .val (.int (Nat.toInt32 (8 * bb)))] [(.int (4 : Int32)), (.int (Nat.toInt32 (8 * bb))), (.int (Nat.toInt32 N)), (.ref ca), (.long ((((zq_by cc (Nat.toInt32 N) (Nat.toInt32 (8 * bb))) ||| ((zq_by cc (Nat.toInt32 N) ((Nat.toInt32 (8 * bb)) + (1 : Int32))) <<< ((8 : Int32) &&& 0x3f).toInt64)) ||| ((zq_by cc (Nat.toInt32 N) ((Nat.toInt32 (8 * bb)) + (2 : Int32))) <<< ((16 : Int32) &&& 0x3f).toInt64)) ||| ((zq_by cc (Nat.toInt32 N) ((Nat.toInt32 (8 * bb)) + (3 : Int32))) <<< ((24 : Int32) &&& 0x3f).toInt64)))]))
  refine zq_go (fun _ kq => XS.iadd X4.here hx rfl (hb hby zq_d10_46) rfl kq) ?_
  show zq_Go p e below s _ _ _ (T4.setTop (mkF m 47 #[.val (.ref ca), .val (.int (Nat.toInt32 N)), .val (.int (Nat.toInt32 (8 * bb)))] [(.int ((Nat.toInt32 (8 * bb)) + (4 : Int32))), (.int (Nat.toInt32 N)), (.ref ca), (.long ((((zq_by cc (Nat.toInt32 N) (Nat.toInt32 (8 * bb))) ||| ((zq_by cc (Nat.toInt32 N) ((Nat.toInt32 (8 * bb)) + (1 : Int32))) <<< ((8 : Int32) &&& 0x3f).toInt64)) ||| ((zq_by cc (Nat.toInt32 N) ((Nat.toInt32 (8 * bb)) + (2 : Int32))) <<< ((16 : Int32) &&& 0x3f).toInt64)) ||| ((zq_by cc (Nat.toInt32 N) ((Nat.toInt32 (8 * bb)) + (3 : Int32))) <<< ((24 : Int32) &&& 0x3f).toInt64)))]))
  obtain ⟨T5, X5, e5, st5⟩ := zq_callP (W := 2) X4 hx hZ hown (hw _ (List.mem_of_getElem? (i := 69) rfl)) (hw _ (List.mem_of_getElem? (i := 70) rfl)) (hw _ (List.mem_of_getElem? (i := 59) rfl)) (hw _ (List.mem_of_getElem? (i := 71) rfl)) (by decide) (zq_rmB l Z a0 hw [] ca (Nat.toInt32 N) ((Nat.toInt32 (8 * bb)) + (4 : Int32)) h0 cc A_ca (zq_rg (k := 4) hN (by decide) hbb)) e4 (by decide) (by decide) rfl rfl (by decide) (by decide) (g := (mkF m 47 #[.val (.ref ca), .val (.int (Nat.toInt32 N)), .val (.int (Nat.toInt32 (8 * bb)))] [(.int ((Nat.toInt32 (8 * bb)) + (4 : Int32))), (.int (Nat.toInt32 N)), (.ref ca), (.long ((((zq_by cc (Nat.toInt32 N) (Nat.toInt32 (8 * bb))) ||| ((zq_by cc (Nat.toInt32 N) ((Nat.toInt32 (8 * bb)) + (1 : Int32))) <<< ((8 : Int32) &&& 0x3f).toInt64)) ||| ((zq_by cc (Nat.toInt32 N) ((Nat.toInt32 (8 * bb)) + (2 : Int32))) <<< ((16 : Int32) &&& 0x3f).toInt64)) ||| ((zq_by cc (Nat.toInt32 N) ((Nat.toInt32 (8 * bb)) + (3 : Int32))) <<< ((24 : Int32) &&& 0x3f).toInt64)))])) rfl (by rw [hml]; rfl) (argsL := [(.ref ca), (.int (Nat.toInt32 N)), (.int ((Nat.toInt32 (8 * bb)) + (4 : Int32)))]) (rest := [(.long ((((zq_by cc (Nat.toInt32 N) (Nat.toInt32 (8 * bb))) ||| ((zq_by cc (Nat.toInt32 N) ((Nat.toInt32 (8 * bb)) + (1 : Int32))) <<< ((8 : Int32) &&& 0x3f).toInt64)) ||| ((zq_by cc (Nat.toInt32 N) ((Nat.toInt32 (8 * bb)) + (2 : Int32))) <<< ((16 : Int32) &&& 0x3f).toInt64)) ||| ((zq_by cc (Nat.toInt32 N) ((Nat.toInt32 (8 * bb)) + (3 : Int32))) <<< ((24 : Int32) &&& 0x3f).toInt64)))]) (lenOf zq_pd10 rfl) rfl (by show 2 * 0 + _ ≤ _; exact Nat.le_of_eq rfl) (hb hby zq_d10_47)
  refine zq_go st5 ?_
  show zq_Go p e below s _ _ _ (T5.setTop (mkF m 50 #[.val (.ref ca), .val (.int (Nat.toInt32 N)), .val (.int (Nat.toInt32 (8 * bb)))] [(.long (zq_by cc (Nat.toInt32 N) ((Nat.toInt32 (8 * bb)) + (4 : Int32)))), (.long ((((zq_by cc (Nat.toInt32 N) (Nat.toInt32 (8 * bb))) ||| ((zq_by cc (Nat.toInt32 N) ((Nat.toInt32 (8 * bb)) + (1 : Int32))) <<< ((8 : Int32) &&& 0x3f).toInt64)) ||| ((zq_by cc (Nat.toInt32 N) ((Nat.toInt32 (8 * bb)) + (2 : Int32))) <<< ((16 : Int32) &&& 0x3f).toInt64)) ||| ((zq_by cc (Nat.toInt32 N) ((Nat.toInt32 (8 * bb)) + (3 : Int32))) <<< ((24 : Int32) &&& 0x3f).toInt64)))]))
  refine zq_go (fun _ kq => XS.bipush X5.here hx rfl (hb hby zq_d10_50) kq) ?_
  show zq_Go p e below s _ _ _ (T5.setTop (mkF m 52 #[.val (.ref ca), .val (.int (Nat.toInt32 N)), .val (.int (Nat.toInt32 (8 * bb)))] [(.int (32 : Int32)), (.long (zq_by cc (Nat.toInt32 N) ((Nat.toInt32 (8 * bb)) + (4 : Int32)))), (.long ((((zq_by cc (Nat.toInt32 N) (Nat.toInt32 (8 * bb))) ||| ((zq_by cc (Nat.toInt32 N) ((Nat.toInt32 (8 * bb)) + (1 : Int32))) <<< ((8 : Int32) &&& 0x3f).toInt64)) ||| ((zq_by cc (Nat.toInt32 N) ((Nat.toInt32 (8 * bb)) + (2 : Int32))) <<< ((16 : Int32) &&& 0x3f).toInt64)) ||| ((zq_by cc (Nat.toInt32 N) ((Nat.toInt32 (8 * bb)) + (3 : Int32))) <<< ((24 : Int32) &&& 0x3f).toInt64)))]))
  refine zq_go (fun _ kq => XS.lshl X5.here hx rfl (hb hby zq_d10_52) rfl kq) ?_
  show zq_Go p e below s _ _ _ (T5.setTop (mkF m 53 #[.val (.ref ca), .val (.int (Nat.toInt32 N)), .val (.int (Nat.toInt32 (8 * bb)))] [(.long ((zq_by cc (Nat.toInt32 N) ((Nat.toInt32 (8 * bb)) + (4 : Int32))) <<< ((32 : Int32) &&& 0x3f).toInt64)), (.long ((((zq_by cc (Nat.toInt32 N) (Nat.toInt32 (8 * bb))) ||| ((zq_by cc (Nat.toInt32 N) ((Nat.toInt32 (8 * bb)) + (1 : Int32))) <<< ((8 : Int32) &&& 0x3f).toInt64)) ||| ((zq_by cc (Nat.toInt32 N) ((Nat.toInt32 (8 * bb)) + (2 : Int32))) <<< ((16 : Int32) &&& 0x3f).toInt64)) ||| ((zq_by cc (Nat.toInt32 N) ((Nat.toInt32 (8 * bb)) + (3 : Int32))) <<< ((24 : Int32) &&& 0x3f).toInt64)))]))
  refine zq_go (fun _ kq => XS.lor X5.here hx rfl (hb hby zq_d10_53) rfl kq) ?_
  show zq_Go p e below s _ _ _ (T5.setTop (mkF m 54 #[.val (.ref ca), .val (.int (Nat.toInt32 N)), .val (.int (Nat.toInt32 (8 * bb)))] [(.long (((((zq_by cc (Nat.toInt32 N) (Nat.toInt32 (8 * bb))) ||| ((zq_by cc (Nat.toInt32 N) ((Nat.toInt32 (8 * bb)) + (1 : Int32))) <<< ((8 : Int32) &&& 0x3f).toInt64)) ||| ((zq_by cc (Nat.toInt32 N) ((Nat.toInt32 (8 * bb)) + (2 : Int32))) <<< ((16 : Int32) &&& 0x3f).toInt64)) ||| ((zq_by cc (Nat.toInt32 N) ((Nat.toInt32 (8 * bb)) + (3 : Int32))) <<< ((24 : Int32) &&& 0x3f).toInt64)) ||| ((zq_by cc (Nat.toInt32 N) ((Nat.toInt32 (8 * bb)) + (4 : Int32))) <<< ((32 : Int32) &&& 0x3f).toInt64)))]))
  refine zq_go (fun _ kq => XS.aloadN X5.here hx rfl (hb hby zq_d10_54) rfl rfl kq) ?_
  show zq_Go p e below s _ _ _ (T5.setTop (mkF m 55 #[.val (.ref ca), .val (.int (Nat.toInt32 N)), .val (.int (Nat.toInt32 (8 * bb)))] [(.ref ca), (.long (((((zq_by cc (Nat.toInt32 N) (Nat.toInt32 (8 * bb))) ||| ((zq_by cc (Nat.toInt32 N) ((Nat.toInt32 (8 * bb)) + (1 : Int32))) <<< ((8 : Int32) &&& 0x3f).toInt64)) ||| ((zq_by cc (Nat.toInt32 N) ((Nat.toInt32 (8 * bb)) + (2 : Int32))) <<< ((16 : Int32) &&& 0x3f).toInt64)) ||| ((zq_by cc (Nat.toInt32 N) ((Nat.toInt32 (8 * bb)) + (3 : Int32))) <<< ((24 : Int32) &&& 0x3f).toInt64)) ||| ((zq_by cc (Nat.toInt32 N) ((Nat.toInt32 (8 * bb)) + (4 : Int32))) <<< ((32 : Int32) &&& 0x3f).toInt64)))]))
  refine zq_go (fun _ kq => XS.iloadN X5.here hx rfl (hb hby zq_d10_55) rfl kq) ?_
  show zq_Go p e below s _ _ _ (T5.setTop (mkF m 56 #[.val (.ref ca), .val (.int (Nat.toInt32 N)), .val (.int (Nat.toInt32 (8 * bb)))] [(.int (Nat.toInt32 N)), (.ref ca), (.long (((((zq_by cc (Nat.toInt32 N) (Nat.toInt32 (8 * bb))) ||| ((zq_by cc (Nat.toInt32 N) ((Nat.toInt32 (8 * bb)) + (1 : Int32))) <<< ((8 : Int32) &&& 0x3f).toInt64)) ||| ((zq_by cc (Nat.toInt32 N) ((Nat.toInt32 (8 * bb)) + (2 : Int32))) <<< ((16 : Int32) &&& 0x3f).toInt64)) ||| ((zq_by cc (Nat.toInt32 N) ((Nat.toInt32 (8 * bb)) + (3 : Int32))) <<< ((24 : Int32) &&& 0x3f).toInt64)) ||| ((zq_by cc (Nat.toInt32 N) ((Nat.toInt32 (8 * bb)) + (4 : Int32))) <<< ((32 : Int32) &&& 0x3f).toInt64)))]))
  refine zq_go (fun _ kq => XS.iloadN X5.here hx rfl (hb hby zq_d10_56) rfl kq) ?_
  show zq_Go p e below s _ _ _ (T5.setTop (mkF m 57 #[.val (.ref ca), .val (.int (Nat.toInt32 N)), .val (.int (Nat.toInt32 (8 * bb)))] [(.int (Nat.toInt32 (8 * bb))), (.int (Nat.toInt32 N)), (.ref ca), (.long (((((zq_by cc (Nat.toInt32 N) (Nat.toInt32 (8 * bb))) ||| ((zq_by cc (Nat.toInt32 N) ((Nat.toInt32 (8 * bb)) + (1 : Int32))) <<< ((8 : Int32) &&& 0x3f).toInt64)) ||| ((zq_by cc (Nat.toInt32 N) ((Nat.toInt32 (8 * bb)) + (2 : Int32))) <<< ((16 : Int32) &&& 0x3f).toInt64)) ||| ((zq_by cc (Nat.toInt32 N) ((Nat.toInt32 (8 * bb)) + (3 : Int32))) <<< ((24 : Int32) &&& 0x3f).toInt64)) ||| ((zq_by cc (Nat.toInt32 N) ((Nat.toInt32 (8 * bb)) + (4 : Int32))) <<< ((32 : Int32) &&& 0x3f).toInt64)))]))
  refine zq_go (fun _ kq => XS.iconst X5.here hx rfl (hb hby zq_d10_57) kq) ?_
  show zq_Go p e below s _ _ _ (T5.setTop (mkF m 58 #[.val (.ref ca), .val (.int (Nat.toInt32 N)), .val (.int (Nat.toInt32 (8 * bb)))] [(.int (5 : Int32)), (.int (Nat.toInt32 (8 * bb))), (.int (Nat.toInt32 N)), (.ref ca), (.long (((((zq_by cc (Nat.toInt32 N) (Nat.toInt32 (8 * bb))) ||| ((zq_by cc (Nat.toInt32 N) ((Nat.toInt32 (8 * bb)) + (1 : Int32))) <<< ((8 : Int32) &&& 0x3f).toInt64)) ||| ((zq_by cc (Nat.toInt32 N) ((Nat.toInt32 (8 * bb)) + (2 : Int32))) <<< ((16 : Int32) &&& 0x3f).toInt64)) ||| ((zq_by cc (Nat.toInt32 N) ((Nat.toInt32 (8 * bb)) + (3 : Int32))) <<< ((24 : Int32) &&& 0x3f).toInt64)) ||| ((zq_by cc (Nat.toInt32 N) ((Nat.toInt32 (8 * bb)) + (4 : Int32))) <<< ((32 : Int32) &&& 0x3f).toInt64)))]))
  refine zq_go (fun _ kq => XS.iadd X5.here hx rfl (hb hby zq_d10_58) rfl kq) ?_
  show zq_Go p e below s _ _ _ (T5.setTop (mkF m 59 #[.val (.ref ca), .val (.int (Nat.toInt32 N)), .val (.int (Nat.toInt32 (8 * bb)))] [(.int ((Nat.toInt32 (8 * bb)) + (5 : Int32))), (.int (Nat.toInt32 N)), (.ref ca), (.long (((((zq_by cc (Nat.toInt32 N) (Nat.toInt32 (8 * bb))) ||| ((zq_by cc (Nat.toInt32 N) ((Nat.toInt32 (8 * bb)) + (1 : Int32))) <<< ((8 : Int32) &&& 0x3f).toInt64)) ||| ((zq_by cc (Nat.toInt32 N) ((Nat.toInt32 (8 * bb)) + (2 : Int32))) <<< ((16 : Int32) &&& 0x3f).toInt64)) ||| ((zq_by cc (Nat.toInt32 N) ((Nat.toInt32 (8 * bb)) + (3 : Int32))) <<< ((24 : Int32) &&& 0x3f).toInt64)) ||| ((zq_by cc (Nat.toInt32 N) ((Nat.toInt32 (8 * bb)) + (4 : Int32))) <<< ((32 : Int32) &&& 0x3f).toInt64)))]))
  obtain ⟨T6, X6, e6, st6⟩ := zq_callP (W := 2) X5 hx hZ hown (hw _ (List.mem_of_getElem? (i := 69) rfl)) (hw _ (List.mem_of_getElem? (i := 70) rfl)) (hw _ (List.mem_of_getElem? (i := 59) rfl)) (hw _ (List.mem_of_getElem? (i := 71) rfl)) (by decide) (zq_rmB l Z a0 hw [] ca (Nat.toInt32 N) ((Nat.toInt32 (8 * bb)) + (5 : Int32)) h0 cc A_ca (zq_rg (k := 5) hN (by decide) hbb)) e5 (by decide) (by decide) rfl rfl (by decide) (by decide) (g := (mkF m 59 #[.val (.ref ca), .val (.int (Nat.toInt32 N)), .val (.int (Nat.toInt32 (8 * bb)))] [(.int ((Nat.toInt32 (8 * bb)) + (5 : Int32))), (.int (Nat.toInt32 N)), (.ref ca), (.long (((((zq_by cc (Nat.toInt32 N) (Nat.toInt32 (8 * bb))) ||| ((zq_by cc (Nat.toInt32 N) ((Nat.toInt32 (8 * bb)) + (1 : Int32))) <<< ((8 : Int32) &&& 0x3f).toInt64)) ||| ((zq_by cc (Nat.toInt32 N) ((Nat.toInt32 (8 * bb)) + (2 : Int32))) <<< ((16 : Int32) &&& 0x3f).toInt64)) ||| ((zq_by cc (Nat.toInt32 N) ((Nat.toInt32 (8 * bb)) + (3 : Int32))) <<< ((24 : Int32) &&& 0x3f).toInt64)) ||| ((zq_by cc (Nat.toInt32 N) ((Nat.toInt32 (8 * bb)) + (4 : Int32))) <<< ((32 : Int32) &&& 0x3f).toInt64)))])) rfl (by rw [hml]; rfl) (argsL := [(.ref ca), (.int (Nat.toInt32 N)), (.int ((Nat.toInt32 (8 * bb)) + (5 : Int32)))]) (rest := [(.long (((((zq_by cc (Nat.toInt32 N) (Nat.toInt32 (8 * bb))) ||| ((zq_by cc (Nat.toInt32 N) ((Nat.toInt32 (8 * bb)) + (1 : Int32))) <<< ((8 : Int32) &&& 0x3f).toInt64)) ||| ((zq_by cc (Nat.toInt32 N) ((Nat.toInt32 (8 * bb)) + (2 : Int32))) <<< ((16 : Int32) &&& 0x3f).toInt64)) ||| ((zq_by cc (Nat.toInt32 N) ((Nat.toInt32 (8 * bb)) + (3 : Int32))) <<< ((24 : Int32) &&& 0x3f).toInt64)) ||| ((zq_by cc (Nat.toInt32 N) ((Nat.toInt32 (8 * bb)) + (4 : Int32))) <<< ((32 : Int32) &&& 0x3f).toInt64)))]) (lenOf zq_pd10 rfl) rfl (by show 2 * 0 + _ ≤ _; exact Nat.le_of_eq rfl) (hb hby zq_d10_59)
  refine zq_go st6 ?_
  show zq_Go p e below s _ _ _ (T6.setTop (mkF m 62 #[.val (.ref ca), .val (.int (Nat.toInt32 N)), .val (.int (Nat.toInt32 (8 * bb)))] [(.long (zq_by cc (Nat.toInt32 N) ((Nat.toInt32 (8 * bb)) + (5 : Int32)))), (.long (((((zq_by cc (Nat.toInt32 N) (Nat.toInt32 (8 * bb))) ||| ((zq_by cc (Nat.toInt32 N) ((Nat.toInt32 (8 * bb)) + (1 : Int32))) <<< ((8 : Int32) &&& 0x3f).toInt64)) ||| ((zq_by cc (Nat.toInt32 N) ((Nat.toInt32 (8 * bb)) + (2 : Int32))) <<< ((16 : Int32) &&& 0x3f).toInt64)) ||| ((zq_by cc (Nat.toInt32 N) ((Nat.toInt32 (8 * bb)) + (3 : Int32))) <<< ((24 : Int32) &&& 0x3f).toInt64)) ||| ((zq_by cc (Nat.toInt32 N) ((Nat.toInt32 (8 * bb)) + (4 : Int32))) <<< ((32 : Int32) &&& 0x3f).toInt64)))]))
  refine zq_go (fun _ kq => XS.bipush X6.here hx rfl (hb hby zq_d10_62) kq) ?_
  show zq_Go p e below s _ _ _ (T6.setTop (mkF m 64 #[.val (.ref ca), .val (.int (Nat.toInt32 N)), .val (.int (Nat.toInt32 (8 * bb)))] [(.int (40 : Int32)), (.long (zq_by cc (Nat.toInt32 N) ((Nat.toInt32 (8 * bb)) + (5 : Int32)))), (.long (((((zq_by cc (Nat.toInt32 N) (Nat.toInt32 (8 * bb))) ||| ((zq_by cc (Nat.toInt32 N) ((Nat.toInt32 (8 * bb)) + (1 : Int32))) <<< ((8 : Int32) &&& 0x3f).toInt64)) ||| ((zq_by cc (Nat.toInt32 N) ((Nat.toInt32 (8 * bb)) + (2 : Int32))) <<< ((16 : Int32) &&& 0x3f).toInt64)) ||| ((zq_by cc (Nat.toInt32 N) ((Nat.toInt32 (8 * bb)) + (3 : Int32))) <<< ((24 : Int32) &&& 0x3f).toInt64)) ||| ((zq_by cc (Nat.toInt32 N) ((Nat.toInt32 (8 * bb)) + (4 : Int32))) <<< ((32 : Int32) &&& 0x3f).toInt64)))]))
  refine zq_go (fun _ kq => XS.lshl X6.here hx rfl (hb hby zq_d10_64) rfl kq) ?_
  show zq_Go p e below s _ _ _ (T6.setTop (mkF m 65 #[.val (.ref ca), .val (.int (Nat.toInt32 N)), .val (.int (Nat.toInt32 (8 * bb)))] [(.long ((zq_by cc (Nat.toInt32 N) ((Nat.toInt32 (8 * bb)) + (5 : Int32))) <<< ((40 : Int32) &&& 0x3f).toInt64)), (.long (((((zq_by cc (Nat.toInt32 N) (Nat.toInt32 (8 * bb))) ||| ((zq_by cc (Nat.toInt32 N) ((Nat.toInt32 (8 * bb)) + (1 : Int32))) <<< ((8 : Int32) &&& 0x3f).toInt64)) ||| ((zq_by cc (Nat.toInt32 N) ((Nat.toInt32 (8 * bb)) + (2 : Int32))) <<< ((16 : Int32) &&& 0x3f).toInt64)) ||| ((zq_by cc (Nat.toInt32 N) ((Nat.toInt32 (8 * bb)) + (3 : Int32))) <<< ((24 : Int32) &&& 0x3f).toInt64)) ||| ((zq_by cc (Nat.toInt32 N) ((Nat.toInt32 (8 * bb)) + (4 : Int32))) <<< ((32 : Int32) &&& 0x3f).toInt64)))]))
  refine zq_go (fun _ kq => XS.lor X6.here hx rfl (hb hby zq_d10_65) rfl kq) ?_
  show zq_Go p e below s _ _ _ (T6.setTop (mkF m 66 #[.val (.ref ca), .val (.int (Nat.toInt32 N)), .val (.int (Nat.toInt32 (8 * bb)))] [(.long ((((((zq_by cc (Nat.toInt32 N) (Nat.toInt32 (8 * bb))) ||| ((zq_by cc (Nat.toInt32 N) ((Nat.toInt32 (8 * bb)) + (1 : Int32))) <<< ((8 : Int32) &&& 0x3f).toInt64)) ||| ((zq_by cc (Nat.toInt32 N) ((Nat.toInt32 (8 * bb)) + (2 : Int32))) <<< ((16 : Int32) &&& 0x3f).toInt64)) ||| ((zq_by cc (Nat.toInt32 N) ((Nat.toInt32 (8 * bb)) + (3 : Int32))) <<< ((24 : Int32) &&& 0x3f).toInt64)) ||| ((zq_by cc (Nat.toInt32 N) ((Nat.toInt32 (8 * bb)) + (4 : Int32))) <<< ((32 : Int32) &&& 0x3f).toInt64)) ||| ((zq_by cc (Nat.toInt32 N) ((Nat.toInt32 (8 * bb)) + (5 : Int32))) <<< ((40 : Int32) &&& 0x3f).toInt64)))]))
  refine zq_go (fun _ kq => XS.aloadN X6.here hx rfl (hb hby zq_d10_66) rfl rfl kq) ?_
  show zq_Go p e below s _ _ _ (T6.setTop (mkF m 67 #[.val (.ref ca), .val (.int (Nat.toInt32 N)), .val (.int (Nat.toInt32 (8 * bb)))] [(.ref ca), (.long ((((((zq_by cc (Nat.toInt32 N) (Nat.toInt32 (8 * bb))) ||| ((zq_by cc (Nat.toInt32 N) ((Nat.toInt32 (8 * bb)) + (1 : Int32))) <<< ((8 : Int32) &&& 0x3f).toInt64)) ||| ((zq_by cc (Nat.toInt32 N) ((Nat.toInt32 (8 * bb)) + (2 : Int32))) <<< ((16 : Int32) &&& 0x3f).toInt64)) ||| ((zq_by cc (Nat.toInt32 N) ((Nat.toInt32 (8 * bb)) + (3 : Int32))) <<< ((24 : Int32) &&& 0x3f).toInt64)) ||| ((zq_by cc (Nat.toInt32 N) ((Nat.toInt32 (8 * bb)) + (4 : Int32))) <<< ((32 : Int32) &&& 0x3f).toInt64)) ||| ((zq_by cc (Nat.toInt32 N) ((Nat.toInt32 (8 * bb)) + (5 : Int32))) <<< ((40 : Int32) &&& 0x3f).toInt64)))]))
  refine zq_go (fun _ kq => XS.iloadN X6.here hx rfl (hb hby zq_d10_67) rfl kq) ?_
  show zq_Go p e below s _ _ _ (T6.setTop (mkF m 68 #[.val (.ref ca), .val (.int (Nat.toInt32 N)), .val (.int (Nat.toInt32 (8 * bb)))] [(.int (Nat.toInt32 N)), (.ref ca), (.long ((((((zq_by cc (Nat.toInt32 N) (Nat.toInt32 (8 * bb))) ||| ((zq_by cc (Nat.toInt32 N) ((Nat.toInt32 (8 * bb)) + (1 : Int32))) <<< ((8 : Int32) &&& 0x3f).toInt64)) ||| ((zq_by cc (Nat.toInt32 N) ((Nat.toInt32 (8 * bb)) + (2 : Int32))) <<< ((16 : Int32) &&& 0x3f).toInt64)) ||| ((zq_by cc (Nat.toInt32 N) ((Nat.toInt32 (8 * bb)) + (3 : Int32))) <<< ((24 : Int32) &&& 0x3f).toInt64)) ||| ((zq_by cc (Nat.toInt32 N) ((Nat.toInt32 (8 * bb)) + (4 : Int32))) <<< ((32 : Int32) &&& 0x3f).toInt64)) ||| ((zq_by cc (Nat.toInt32 N) ((Nat.toInt32 (8 * bb)) + (5 : Int32))) <<< ((40 : Int32) &&& 0x3f).toInt64)))]))
  refine zq_go (fun _ kq => XS.iloadN X6.here hx rfl (hb hby zq_d10_68) rfl kq) ?_
  show zq_Go p e below s _ _ _ (T6.setTop (mkF m 69 #[.val (.ref ca), .val (.int (Nat.toInt32 N)), .val (.int (Nat.toInt32 (8 * bb)))] [(.int (Nat.toInt32 (8 * bb))), (.int (Nat.toInt32 N)), (.ref ca), (.long ((((((zq_by cc (Nat.toInt32 N) (Nat.toInt32 (8 * bb))) ||| ((zq_by cc (Nat.toInt32 N) ((Nat.toInt32 (8 * bb)) + (1 : Int32))) <<< ((8 : Int32) &&& 0x3f).toInt64)) ||| ((zq_by cc (Nat.toInt32 N) ((Nat.toInt32 (8 * bb)) + (2 : Int32))) <<< ((16 : Int32) &&& 0x3f).toInt64)) ||| ((zq_by cc (Nat.toInt32 N) ((Nat.toInt32 (8 * bb)) + (3 : Int32))) <<< ((24 : Int32) &&& 0x3f).toInt64)) ||| ((zq_by cc (Nat.toInt32 N) ((Nat.toInt32 (8 * bb)) + (4 : Int32))) <<< ((32 : Int32) &&& 0x3f).toInt64)) ||| ((zq_by cc (Nat.toInt32 N) ((Nat.toInt32 (8 * bb)) + (5 : Int32))) <<< ((40 : Int32) &&& 0x3f).toInt64)))]))
  refine zq_go (fun _ kq => XS.bipush X6.here hx rfl (hb hby zq_d10_69) kq) ?_
  show zq_Go p e below s _ _ _ (T6.setTop (mkF m 71 #[.val (.ref ca), .val (.int (Nat.toInt32 N)), .val (.int (Nat.toInt32 (8 * bb)))] [(.int (6 : Int32)), (.int (Nat.toInt32 (8 * bb))), (.int (Nat.toInt32 N)), (.ref ca), (.long ((((((zq_by cc (Nat.toInt32 N) (Nat.toInt32 (8 * bb))) ||| ((zq_by cc (Nat.toInt32 N) ((Nat.toInt32 (8 * bb)) + (1 : Int32))) <<< ((8 : Int32) &&& 0x3f).toInt64)) ||| ((zq_by cc (Nat.toInt32 N) ((Nat.toInt32 (8 * bb)) + (2 : Int32))) <<< ((16 : Int32) &&& 0x3f).toInt64)) ||| ((zq_by cc (Nat.toInt32 N) ((Nat.toInt32 (8 * bb)) + (3 : Int32))) <<< ((24 : Int32) &&& 0x3f).toInt64)) ||| ((zq_by cc (Nat.toInt32 N) ((Nat.toInt32 (8 * bb)) + (4 : Int32))) <<< ((32 : Int32) &&& 0x3f).toInt64)) ||| ((zq_by cc (Nat.toInt32 N) ((Nat.toInt32 (8 * bb)) + (5 : Int32))) <<< ((40 : Int32) &&& 0x3f).toInt64)))]))
  refine zq_go (fun _ kq => XS.iadd X6.here hx rfl (hb hby zq_d10_71) rfl kq) ?_
  show zq_Go p e below s _ _ _ (T6.setTop (mkF m 72 #[.val (.ref ca), .val (.int (Nat.toInt32 N)), .val (.int (Nat.toInt32 (8 * bb)))] [(.int ((Nat.toInt32 (8 * bb)) + (6 : Int32))), (.int (Nat.toInt32 N)), (.ref ca), (.long ((((((zq_by cc (Nat.toInt32 N) (Nat.toInt32 (8 * bb))) ||| ((zq_by cc (Nat.toInt32 N) ((Nat.toInt32 (8 * bb)) + (1 : Int32))) <<< ((8 : Int32) &&& 0x3f).toInt64)) ||| ((zq_by cc (Nat.toInt32 N) ((Nat.toInt32 (8 * bb)) + (2 : Int32))) <<< ((16 : Int32) &&& 0x3f).toInt64)) ||| ((zq_by cc (Nat.toInt32 N) ((Nat.toInt32 (8 * bb)) + (3 : Int32))) <<< ((24 : Int32) &&& 0x3f).toInt64)) ||| ((zq_by cc (Nat.toInt32 N) ((Nat.toInt32 (8 * bb)) + (4 : Int32))) <<< ((32 : Int32) &&& 0x3f).toInt64)) ||| ((zq_by cc (Nat.toInt32 N) ((Nat.toInt32 (8 * bb)) + (5 : Int32))) <<< ((40 : Int32) &&& 0x3f).toInt64)))]))
  obtain ⟨T7, X7, e7, st7⟩ := zq_callP (W := 2) X6 hx hZ hown (hw _ (List.mem_of_getElem? (i := 69) rfl)) (hw _ (List.mem_of_getElem? (i := 70) rfl)) (hw _ (List.mem_of_getElem? (i := 59) rfl)) (hw _ (List.mem_of_getElem? (i := 71) rfl)) (by decide) (zq_rmB l Z a0 hw [] ca (Nat.toInt32 N) ((Nat.toInt32 (8 * bb)) + (6 : Int32)) h0 cc A_ca (zq_rg (k := 6) hN (by decide) hbb)) e6 (by decide) (by decide) rfl rfl (by decide) (by decide) (g := (mkF m 72 #[.val (.ref ca), .val (.int (Nat.toInt32 N)), .val (.int (Nat.toInt32 (8 * bb)))] [(.int ((Nat.toInt32 (8 * bb)) + (6 : Int32))), (.int (Nat.toInt32 N)), (.ref ca), (.long ((((((zq_by cc (Nat.toInt32 N) (Nat.toInt32 (8 * bb))) ||| ((zq_by cc (Nat.toInt32 N) ((Nat.toInt32 (8 * bb)) + (1 : Int32))) <<< ((8 : Int32) &&& 0x3f).toInt64)) ||| ((zq_by cc (Nat.toInt32 N) ((Nat.toInt32 (8 * bb)) + (2 : Int32))) <<< ((16 : Int32) &&& 0x3f).toInt64)) ||| ((zq_by cc (Nat.toInt32 N) ((Nat.toInt32 (8 * bb)) + (3 : Int32))) <<< ((24 : Int32) &&& 0x3f).toInt64)) ||| ((zq_by cc (Nat.toInt32 N) ((Nat.toInt32 (8 * bb)) + (4 : Int32))) <<< ((32 : Int32) &&& 0x3f).toInt64)) ||| ((zq_by cc (Nat.toInt32 N) ((Nat.toInt32 (8 * bb)) + (5 : Int32))) <<< ((40 : Int32) &&& 0x3f).toInt64)))])) rfl (by rw [hml]; rfl) (argsL := [(.ref ca), (.int (Nat.toInt32 N)), (.int ((Nat.toInt32 (8 * bb)) + (6 : Int32)))]) (rest := [(.long ((((((zq_by cc (Nat.toInt32 N) (Nat.toInt32 (8 * bb))) ||| ((zq_by cc (Nat.toInt32 N) ((Nat.toInt32 (8 * bb)) + (1 : Int32))) <<< ((8 : Int32) &&& 0x3f).toInt64)) ||| ((zq_by cc (Nat.toInt32 N) ((Nat.toInt32 (8 * bb)) + (2 : Int32))) <<< ((16 : Int32) &&& 0x3f).toInt64)) ||| ((zq_by cc (Nat.toInt32 N) ((Nat.toInt32 (8 * bb)) + (3 : Int32))) <<< ((24 : Int32) &&& 0x3f).toInt64)) ||| ((zq_by cc (Nat.toInt32 N) ((Nat.toInt32 (8 * bb)) + (4 : Int32))) <<< ((32 : Int32) &&& 0x3f).toInt64)) ||| ((zq_by cc (Nat.toInt32 N) ((Nat.toInt32 (8 * bb)) + (5 : Int32))) <<< ((40 : Int32) &&& 0x3f).toInt64)))]) (lenOf zq_pd10 rfl) rfl (by show 2 * 0 + _ ≤ _; exact Nat.le_of_eq rfl) (hb hby zq_d10_72)
  refine zq_go st7 ?_
  show zq_Go p e below s _ _ _ (T7.setTop (mkF m 75 #[.val (.ref ca), .val (.int (Nat.toInt32 N)), .val (.int (Nat.toInt32 (8 * bb)))] [(.long (zq_by cc (Nat.toInt32 N) ((Nat.toInt32 (8 * bb)) + (6 : Int32)))), (.long ((((((zq_by cc (Nat.toInt32 N) (Nat.toInt32 (8 * bb))) ||| ((zq_by cc (Nat.toInt32 N) ((Nat.toInt32 (8 * bb)) + (1 : Int32))) <<< ((8 : Int32) &&& 0x3f).toInt64)) ||| ((zq_by cc (Nat.toInt32 N) ((Nat.toInt32 (8 * bb)) + (2 : Int32))) <<< ((16 : Int32) &&& 0x3f).toInt64)) ||| ((zq_by cc (Nat.toInt32 N) ((Nat.toInt32 (8 * bb)) + (3 : Int32))) <<< ((24 : Int32) &&& 0x3f).toInt64)) ||| ((zq_by cc (Nat.toInt32 N) ((Nat.toInt32 (8 * bb)) + (4 : Int32))) <<< ((32 : Int32) &&& 0x3f).toInt64)) ||| ((zq_by cc (Nat.toInt32 N) ((Nat.toInt32 (8 * bb)) + (5 : Int32))) <<< ((40 : Int32) &&& 0x3f).toInt64)))]))
  refine zq_go (fun _ kq => XS.bipush X7.here hx rfl (hb hby zq_d10_75) kq) ?_
  show zq_Go p e below s _ _ _ (T7.setTop (mkF m 77 #[.val (.ref ca), .val (.int (Nat.toInt32 N)), .val (.int (Nat.toInt32 (8 * bb)))] [(.int (48 : Int32)), (.long (zq_by cc (Nat.toInt32 N) ((Nat.toInt32 (8 * bb)) + (6 : Int32)))), (.long ((((((zq_by cc (Nat.toInt32 N) (Nat.toInt32 (8 * bb))) ||| ((zq_by cc (Nat.toInt32 N) ((Nat.toInt32 (8 * bb)) + (1 : Int32))) <<< ((8 : Int32) &&& 0x3f).toInt64)) ||| ((zq_by cc (Nat.toInt32 N) ((Nat.toInt32 (8 * bb)) + (2 : Int32))) <<< ((16 : Int32) &&& 0x3f).toInt64)) ||| ((zq_by cc (Nat.toInt32 N) ((Nat.toInt32 (8 * bb)) + (3 : Int32))) <<< ((24 : Int32) &&& 0x3f).toInt64)) ||| ((zq_by cc (Nat.toInt32 N) ((Nat.toInt32 (8 * bb)) + (4 : Int32))) <<< ((32 : Int32) &&& 0x3f).toInt64)) ||| ((zq_by cc (Nat.toInt32 N) ((Nat.toInt32 (8 * bb)) + (5 : Int32))) <<< ((40 : Int32) &&& 0x3f).toInt64)))]))
  refine zq_go (fun _ kq => XS.lshl X7.here hx rfl (hb hby zq_d10_77) rfl kq) ?_
  show zq_Go p e below s _ _ _ (T7.setTop (mkF m 78 #[.val (.ref ca), .val (.int (Nat.toInt32 N)), .val (.int (Nat.toInt32 (8 * bb)))] [(.long ((zq_by cc (Nat.toInt32 N) ((Nat.toInt32 (8 * bb)) + (6 : Int32))) <<< ((48 : Int32) &&& 0x3f).toInt64)), (.long ((((((zq_by cc (Nat.toInt32 N) (Nat.toInt32 (8 * bb))) ||| ((zq_by cc (Nat.toInt32 N) ((Nat.toInt32 (8 * bb)) + (1 : Int32))) <<< ((8 : Int32) &&& 0x3f).toInt64)) ||| ((zq_by cc (Nat.toInt32 N) ((Nat.toInt32 (8 * bb)) + (2 : Int32))) <<< ((16 : Int32) &&& 0x3f).toInt64)) ||| ((zq_by cc (Nat.toInt32 N) ((Nat.toInt32 (8 * bb)) + (3 : Int32))) <<< ((24 : Int32) &&& 0x3f).toInt64)) ||| ((zq_by cc (Nat.toInt32 N) ((Nat.toInt32 (8 * bb)) + (4 : Int32))) <<< ((32 : Int32) &&& 0x3f).toInt64)) ||| ((zq_by cc (Nat.toInt32 N) ((Nat.toInt32 (8 * bb)) + (5 : Int32))) <<< ((40 : Int32) &&& 0x3f).toInt64)))]))
  refine zq_go (fun _ kq => XS.lor X7.here hx rfl (hb hby zq_d10_78) rfl kq) ?_
  show zq_Go p e below s _ _ _ (T7.setTop (mkF m 79 #[.val (.ref ca), .val (.int (Nat.toInt32 N)), .val (.int (Nat.toInt32 (8 * bb)))] [(.long (((((((zq_by cc (Nat.toInt32 N) (Nat.toInt32 (8 * bb))) ||| ((zq_by cc (Nat.toInt32 N) ((Nat.toInt32 (8 * bb)) + (1 : Int32))) <<< ((8 : Int32) &&& 0x3f).toInt64)) ||| ((zq_by cc (Nat.toInt32 N) ((Nat.toInt32 (8 * bb)) + (2 : Int32))) <<< ((16 : Int32) &&& 0x3f).toInt64)) ||| ((zq_by cc (Nat.toInt32 N) ((Nat.toInt32 (8 * bb)) + (3 : Int32))) <<< ((24 : Int32) &&& 0x3f).toInt64)) ||| ((zq_by cc (Nat.toInt32 N) ((Nat.toInt32 (8 * bb)) + (4 : Int32))) <<< ((32 : Int32) &&& 0x3f).toInt64)) ||| ((zq_by cc (Nat.toInt32 N) ((Nat.toInt32 (8 * bb)) + (5 : Int32))) <<< ((40 : Int32) &&& 0x3f).toInt64)) ||| ((zq_by cc (Nat.toInt32 N) ((Nat.toInt32 (8 * bb)) + (6 : Int32))) <<< ((48 : Int32) &&& 0x3f).toInt64)))]))
  refine zq_go (fun _ kq => XS.aloadN X7.here hx rfl (hb hby zq_d10_79) rfl rfl kq) ?_
  show zq_Go p e below s _ _ _ (T7.setTop (mkF m 80 #[.val (.ref ca), .val (.int (Nat.toInt32 N)), .val (.int (Nat.toInt32 (8 * bb)))] [(.ref ca), (.long (((((((zq_by cc (Nat.toInt32 N) (Nat.toInt32 (8 * bb))) ||| ((zq_by cc (Nat.toInt32 N) ((Nat.toInt32 (8 * bb)) + (1 : Int32))) <<< ((8 : Int32) &&& 0x3f).toInt64)) ||| ((zq_by cc (Nat.toInt32 N) ((Nat.toInt32 (8 * bb)) + (2 : Int32))) <<< ((16 : Int32) &&& 0x3f).toInt64)) ||| ((zq_by cc (Nat.toInt32 N) ((Nat.toInt32 (8 * bb)) + (3 : Int32))) <<< ((24 : Int32) &&& 0x3f).toInt64)) ||| ((zq_by cc (Nat.toInt32 N) ((Nat.toInt32 (8 * bb)) + (4 : Int32))) <<< ((32 : Int32) &&& 0x3f).toInt64)) ||| ((zq_by cc (Nat.toInt32 N) ((Nat.toInt32 (8 * bb)) + (5 : Int32))) <<< ((40 : Int32) &&& 0x3f).toInt64)) ||| ((zq_by cc (Nat.toInt32 N) ((Nat.toInt32 (8 * bb)) + (6 : Int32))) <<< ((48 : Int32) &&& 0x3f).toInt64)))]))
  refine zq_go (fun _ kq => XS.iloadN X7.here hx rfl (hb hby zq_d10_80) rfl kq) ?_
  show zq_Go p e below s _ _ _ (T7.setTop (mkF m 81 #[.val (.ref ca), .val (.int (Nat.toInt32 N)), .val (.int (Nat.toInt32 (8 * bb)))] [(.int (Nat.toInt32 N)), (.ref ca), (.long (((((((zq_by cc (Nat.toInt32 N) (Nat.toInt32 (8 * bb))) ||| ((zq_by cc (Nat.toInt32 N) ((Nat.toInt32 (8 * bb)) + (1 : Int32))) <<< ((8 : Int32) &&& 0x3f).toInt64)) ||| ((zq_by cc (Nat.toInt32 N) ((Nat.toInt32 (8 * bb)) + (2 : Int32))) <<< ((16 : Int32) &&& 0x3f).toInt64)) ||| ((zq_by cc (Nat.toInt32 N) ((Nat.toInt32 (8 * bb)) + (3 : Int32))) <<< ((24 : Int32) &&& 0x3f).toInt64)) ||| ((zq_by cc (Nat.toInt32 N) ((Nat.toInt32 (8 * bb)) + (4 : Int32))) <<< ((32 : Int32) &&& 0x3f).toInt64)) ||| ((zq_by cc (Nat.toInt32 N) ((Nat.toInt32 (8 * bb)) + (5 : Int32))) <<< ((40 : Int32) &&& 0x3f).toInt64)) ||| ((zq_by cc (Nat.toInt32 N) ((Nat.toInt32 (8 * bb)) + (6 : Int32))) <<< ((48 : Int32) &&& 0x3f).toInt64)))]))
  refine zq_go (fun _ kq => XS.iloadN X7.here hx rfl (hb hby zq_d10_81) rfl kq) ?_
  show zq_Go p e below s _ _ _ (T7.setTop (mkF m 82 #[.val (.ref ca), .val (.int (Nat.toInt32 N)), .val (.int (Nat.toInt32 (8 * bb)))] [(.int (Nat.toInt32 (8 * bb))), (.int (Nat.toInt32 N)), (.ref ca), (.long (((((((zq_by cc (Nat.toInt32 N) (Nat.toInt32 (8 * bb))) ||| ((zq_by cc (Nat.toInt32 N) ((Nat.toInt32 (8 * bb)) + (1 : Int32))) <<< ((8 : Int32) &&& 0x3f).toInt64)) ||| ((zq_by cc (Nat.toInt32 N) ((Nat.toInt32 (8 * bb)) + (2 : Int32))) <<< ((16 : Int32) &&& 0x3f).toInt64)) ||| ((zq_by cc (Nat.toInt32 N) ((Nat.toInt32 (8 * bb)) + (3 : Int32))) <<< ((24 : Int32) &&& 0x3f).toInt64)) ||| ((zq_by cc (Nat.toInt32 N) ((Nat.toInt32 (8 * bb)) + (4 : Int32))) <<< ((32 : Int32) &&& 0x3f).toInt64)) ||| ((zq_by cc (Nat.toInt32 N) ((Nat.toInt32 (8 * bb)) + (5 : Int32))) <<< ((40 : Int32) &&& 0x3f).toInt64)) ||| ((zq_by cc (Nat.toInt32 N) ((Nat.toInt32 (8 * bb)) + (6 : Int32))) <<< ((48 : Int32) &&& 0x3f).toInt64)))]))
  refine zq_go (fun _ kq => XS.bipush X7.here hx rfl (hb hby zq_d10_82) kq) ?_
  show zq_Go p e below s _ _ _ (T7.setTop (mkF m 84 #[.val (.ref ca), .val (.int (Nat.toInt32 N)), .val (.int (Nat.toInt32 (8 * bb)))] [(.int (7 : Int32)), (.int (Nat.toInt32 (8 * bb))), (.int (Nat.toInt32 N)), (.ref ca), (.long (((((((zq_by cc (Nat.toInt32 N) (Nat.toInt32 (8 * bb))) ||| ((zq_by cc (Nat.toInt32 N) ((Nat.toInt32 (8 * bb)) + (1 : Int32))) <<< ((8 : Int32) &&& 0x3f).toInt64)) ||| ((zq_by cc (Nat.toInt32 N) ((Nat.toInt32 (8 * bb)) + (2 : Int32))) <<< ((16 : Int32) &&& 0x3f).toInt64)) ||| ((zq_by cc (Nat.toInt32 N) ((Nat.toInt32 (8 * bb)) + (3 : Int32))) <<< ((24 : Int32) &&& 0x3f).toInt64)) ||| ((zq_by cc (Nat.toInt32 N) ((Nat.toInt32 (8 * bb)) + (4 : Int32))) <<< ((32 : Int32) &&& 0x3f).toInt64)) ||| ((zq_by cc (Nat.toInt32 N) ((Nat.toInt32 (8 * bb)) + (5 : Int32))) <<< ((40 : Int32) &&& 0x3f).toInt64)) ||| ((zq_by cc (Nat.toInt32 N) ((Nat.toInt32 (8 * bb)) + (6 : Int32))) <<< ((48 : Int32) &&& 0x3f).toInt64)))]))
  refine zq_go (fun _ kq => XS.iadd X7.here hx rfl (hb hby zq_d10_84) rfl kq) ?_
  show zq_Go p e below s _ _ _ (T7.setTop (mkF m 85 #[.val (.ref ca), .val (.int (Nat.toInt32 N)), .val (.int (Nat.toInt32 (8 * bb)))] [(.int ((Nat.toInt32 (8 * bb)) + (7 : Int32))), (.int (Nat.toInt32 N)), (.ref ca), (.long (((((((zq_by cc (Nat.toInt32 N) (Nat.toInt32 (8 * bb))) ||| ((zq_by cc (Nat.toInt32 N) ((Nat.toInt32 (8 * bb)) + (1 : Int32))) <<< ((8 : Int32) &&& 0x3f).toInt64)) ||| ((zq_by cc (Nat.toInt32 N) ((Nat.toInt32 (8 * bb)) + (2 : Int32))) <<< ((16 : Int32) &&& 0x3f).toInt64)) ||| ((zq_by cc (Nat.toInt32 N) ((Nat.toInt32 (8 * bb)) + (3 : Int32))) <<< ((24 : Int32) &&& 0x3f).toInt64)) ||| ((zq_by cc (Nat.toInt32 N) ((Nat.toInt32 (8 * bb)) + (4 : Int32))) <<< ((32 : Int32) &&& 0x3f).toInt64)) ||| ((zq_by cc (Nat.toInt32 N) ((Nat.toInt32 (8 * bb)) + (5 : Int32))) <<< ((40 : Int32) &&& 0x3f).toInt64)) ||| ((zq_by cc (Nat.toInt32 N) ((Nat.toInt32 (8 * bb)) + (6 : Int32))) <<< ((48 : Int32) &&& 0x3f).toInt64)))]))
  obtain ⟨T8, X8, e8, st8⟩ := zq_callP (W := 2) X7 hx hZ hown (hw _ (List.mem_of_getElem? (i := 69) rfl)) (hw _ (List.mem_of_getElem? (i := 70) rfl)) (hw _ (List.mem_of_getElem? (i := 59) rfl)) (hw _ (List.mem_of_getElem? (i := 71) rfl)) (by decide) (zq_rmB l Z a0 hw [] ca (Nat.toInt32 N) ((Nat.toInt32 (8 * bb)) + (7 : Int32)) h0 cc A_ca (zq_rg (k := 7) hN (by decide) hbb)) e7 (by decide) (by decide) rfl rfl (by decide) (by decide) (g := (mkF m 85 #[.val (.ref ca), .val (.int (Nat.toInt32 N)), .val (.int (Nat.toInt32 (8 * bb)))] [(.int ((Nat.toInt32 (8 * bb)) + (7 : Int32))), (.int (Nat.toInt32 N)), (.ref ca), (.long (((((((zq_by cc (Nat.toInt32 N) (Nat.toInt32 (8 * bb))) ||| ((zq_by cc (Nat.toInt32 N) ((Nat.toInt32 (8 * bb)) + (1 : Int32))) <<< ((8 : Int32) &&& 0x3f).toInt64)) ||| ((zq_by cc (Nat.toInt32 N) ((Nat.toInt32 (8 * bb)) + (2 : Int32))) <<< ((16 : Int32) &&& 0x3f).toInt64)) ||| ((zq_by cc (Nat.toInt32 N) ((Nat.toInt32 (8 * bb)) + (3 : Int32))) <<< ((24 : Int32) &&& 0x3f).toInt64)) ||| ((zq_by cc (Nat.toInt32 N) ((Nat.toInt32 (8 * bb)) + (4 : Int32))) <<< ((32 : Int32) &&& 0x3f).toInt64)) ||| ((zq_by cc (Nat.toInt32 N) ((Nat.toInt32 (8 * bb)) + (5 : Int32))) <<< ((40 : Int32) &&& 0x3f).toInt64)) ||| ((zq_by cc (Nat.toInt32 N) ((Nat.toInt32 (8 * bb)) + (6 : Int32))) <<< ((48 : Int32) &&& 0x3f).toInt64)))])) rfl (by rw [hml]; rfl) (argsL := [(.ref ca), (.int (Nat.toInt32 N)), (.int ((Nat.toInt32 (8 * bb)) + (7 : Int32)))]) (rest := [(.long (((((((zq_by cc (Nat.toInt32 N) (Nat.toInt32 (8 * bb))) ||| ((zq_by cc (Nat.toInt32 N) ((Nat.toInt32 (8 * bb)) + (1 : Int32))) <<< ((8 : Int32) &&& 0x3f).toInt64)) ||| ((zq_by cc (Nat.toInt32 N) ((Nat.toInt32 (8 * bb)) + (2 : Int32))) <<< ((16 : Int32) &&& 0x3f).toInt64)) ||| ((zq_by cc (Nat.toInt32 N) ((Nat.toInt32 (8 * bb)) + (3 : Int32))) <<< ((24 : Int32) &&& 0x3f).toInt64)) ||| ((zq_by cc (Nat.toInt32 N) ((Nat.toInt32 (8 * bb)) + (4 : Int32))) <<< ((32 : Int32) &&& 0x3f).toInt64)) ||| ((zq_by cc (Nat.toInt32 N) ((Nat.toInt32 (8 * bb)) + (5 : Int32))) <<< ((40 : Int32) &&& 0x3f).toInt64)) ||| ((zq_by cc (Nat.toInt32 N) ((Nat.toInt32 (8 * bb)) + (6 : Int32))) <<< ((48 : Int32) &&& 0x3f).toInt64)))]) (lenOf zq_pd10 rfl) rfl (by show 2 * 0 + _ ≤ _; exact Nat.le_of_eq rfl) (hb hby zq_d10_85)
  refine zq_go st8 ?_
  show zq_Go p e below s _ _ _ (T8.setTop (mkF m 88 #[.val (.ref ca), .val (.int (Nat.toInt32 N)), .val (.int (Nat.toInt32 (8 * bb)))] [(.long (zq_by cc (Nat.toInt32 N) ((Nat.toInt32 (8 * bb)) + (7 : Int32)))), (.long (((((((zq_by cc (Nat.toInt32 N) (Nat.toInt32 (8 * bb))) ||| ((zq_by cc (Nat.toInt32 N) ((Nat.toInt32 (8 * bb)) + (1 : Int32))) <<< ((8 : Int32) &&& 0x3f).toInt64)) ||| ((zq_by cc (Nat.toInt32 N) ((Nat.toInt32 (8 * bb)) + (2 : Int32))) <<< ((16 : Int32) &&& 0x3f).toInt64)) ||| ((zq_by cc (Nat.toInt32 N) ((Nat.toInt32 (8 * bb)) + (3 : Int32))) <<< ((24 : Int32) &&& 0x3f).toInt64)) ||| ((zq_by cc (Nat.toInt32 N) ((Nat.toInt32 (8 * bb)) + (4 : Int32))) <<< ((32 : Int32) &&& 0x3f).toInt64)) ||| ((zq_by cc (Nat.toInt32 N) ((Nat.toInt32 (8 * bb)) + (5 : Int32))) <<< ((40 : Int32) &&& 0x3f).toInt64)) ||| ((zq_by cc (Nat.toInt32 N) ((Nat.toInt32 (8 * bb)) + (6 : Int32))) <<< ((48 : Int32) &&& 0x3f).toInt64)))]))
  refine zq_go (fun _ kq => XS.bipush X8.here hx rfl (hb hby zq_d10_88) kq) ?_
  show zq_Go p e below s _ _ _ (T8.setTop (mkF m 90 #[.val (.ref ca), .val (.int (Nat.toInt32 N)), .val (.int (Nat.toInt32 (8 * bb)))] [(.int (56 : Int32)), (.long (zq_by cc (Nat.toInt32 N) ((Nat.toInt32 (8 * bb)) + (7 : Int32)))), (.long (((((((zq_by cc (Nat.toInt32 N) (Nat.toInt32 (8 * bb))) ||| ((zq_by cc (Nat.toInt32 N) ((Nat.toInt32 (8 * bb)) + (1 : Int32))) <<< ((8 : Int32) &&& 0x3f).toInt64)) ||| ((zq_by cc (Nat.toInt32 N) ((Nat.toInt32 (8 * bb)) + (2 : Int32))) <<< ((16 : Int32) &&& 0x3f).toInt64)) ||| ((zq_by cc (Nat.toInt32 N) ((Nat.toInt32 (8 * bb)) + (3 : Int32))) <<< ((24 : Int32) &&& 0x3f).toInt64)) ||| ((zq_by cc (Nat.toInt32 N) ((Nat.toInt32 (8 * bb)) + (4 : Int32))) <<< ((32 : Int32) &&& 0x3f).toInt64)) ||| ((zq_by cc (Nat.toInt32 N) ((Nat.toInt32 (8 * bb)) + (5 : Int32))) <<< ((40 : Int32) &&& 0x3f).toInt64)) ||| ((zq_by cc (Nat.toInt32 N) ((Nat.toInt32 (8 * bb)) + (6 : Int32))) <<< ((48 : Int32) &&& 0x3f).toInt64)))]))
  refine zq_go (fun _ kq => XS.lshl X8.here hx rfl (hb hby zq_d10_90) rfl kq) ?_
  show zq_Go p e below s _ _ _ (T8.setTop (mkF m 91 #[.val (.ref ca), .val (.int (Nat.toInt32 N)), .val (.int (Nat.toInt32 (8 * bb)))] [(.long ((zq_by cc (Nat.toInt32 N) ((Nat.toInt32 (8 * bb)) + (7 : Int32))) <<< ((56 : Int32) &&& 0x3f).toInt64)), (.long (((((((zq_by cc (Nat.toInt32 N) (Nat.toInt32 (8 * bb))) ||| ((zq_by cc (Nat.toInt32 N) ((Nat.toInt32 (8 * bb)) + (1 : Int32))) <<< ((8 : Int32) &&& 0x3f).toInt64)) ||| ((zq_by cc (Nat.toInt32 N) ((Nat.toInt32 (8 * bb)) + (2 : Int32))) <<< ((16 : Int32) &&& 0x3f).toInt64)) ||| ((zq_by cc (Nat.toInt32 N) ((Nat.toInt32 (8 * bb)) + (3 : Int32))) <<< ((24 : Int32) &&& 0x3f).toInt64)) ||| ((zq_by cc (Nat.toInt32 N) ((Nat.toInt32 (8 * bb)) + (4 : Int32))) <<< ((32 : Int32) &&& 0x3f).toInt64)) ||| ((zq_by cc (Nat.toInt32 N) ((Nat.toInt32 (8 * bb)) + (5 : Int32))) <<< ((40 : Int32) &&& 0x3f).toInt64)) ||| ((zq_by cc (Nat.toInt32 N) ((Nat.toInt32 (8 * bb)) + (6 : Int32))) <<< ((48 : Int32) &&& 0x3f).toInt64)))]))
  refine zq_go (fun _ kq => XS.lor X8.here hx rfl (hb hby zq_d10_91) rfl kq) ?_
  show zq_Go p e below s _ _ _ (T8.setTop (mkF m 92 #[.val (.ref ca), .val (.int (Nat.toInt32 N)), .val (.int (Nat.toInt32 (8 * bb)))] [(.long ((((((((zq_by cc (Nat.toInt32 N) (Nat.toInt32 (8 * bb))) ||| ((zq_by cc (Nat.toInt32 N) ((Nat.toInt32 (8 * bb)) + (1 : Int32))) <<< ((8 : Int32) &&& 0x3f).toInt64)) ||| ((zq_by cc (Nat.toInt32 N) ((Nat.toInt32 (8 * bb)) + (2 : Int32))) <<< ((16 : Int32) &&& 0x3f).toInt64)) ||| ((zq_by cc (Nat.toInt32 N) ((Nat.toInt32 (8 * bb)) + (3 : Int32))) <<< ((24 : Int32) &&& 0x3f).toInt64)) ||| ((zq_by cc (Nat.toInt32 N) ((Nat.toInt32 (8 * bb)) + (4 : Int32))) <<< ((32 : Int32) &&& 0x3f).toInt64)) ||| ((zq_by cc (Nat.toInt32 N) ((Nat.toInt32 (8 * bb)) + (5 : Int32))) <<< ((40 : Int32) &&& 0x3f).toInt64)) ||| ((zq_by cc (Nat.toInt32 N) ((Nat.toInt32 (8 * bb)) + (6 : Int32))) <<< ((48 : Int32) &&& 0x3f).toInt64)) ||| ((zq_by cc (Nat.toInt32 N) ((Nat.toInt32 (8 * bb)) + (7 : Int32))) <<< ((56 : Int32) &&& 0x3f).toInt64)))]))
  exact zq_retJ X8 hx hlk hret (hb hby zq_d10_92) ⟨rfl, rfl, e8⟩ (by decide) (by decide)
theorem zq_pd11 : parseMethodDescriptor "([JJ)V" = some ⟨[(.array .long), .long], none⟩ := by decide +kernel
theorem zq_d9_0 : decode method_3_code 0 = .ok (.iconst 4, 1) := by decide +kernel
theorem zq_d9_1 : decode method_3_code 1 = .ok (.newarray .long, 2) := by decide +kernel
theorem zq_d9_3 : decode method_3_code 3 = .ok (.dup, 1) := by decide +kernel
theorem zq_d9_4 : decode method_3_code 4 = .ok (.iconst 0, 1) := by decide +kernel
theorem zq_d9_5 : decode method_3_code 5 = .ok (.lload_n 0, 1) := by decide +kernel
theorem zq_d9_6 : decode method_3_code 6 = .ok (.ldc2_w 22, 3) := by decide +kernel
theorem zq_d9_9 : decode method_3_code 9 = .ok (.lxor, 1) := by decide +kernel
theorem zq_d9_10 : decode method_3_code 10 = .ok (.lastore, 1) := by decide +kernel
theorem zq_d9_11 : decode method_3_code 11 = .ok (.dup, 1) := by decide +kernel
theorem zq_d9_12 : decode method_3_code 12 = .ok (.iconst 1, 1) := by decide +kernel
theorem zq_d9_13 : decode method_3_code 13 = .ok (.lload_n 2, 1) := by decide +kernel
theorem zq_d9_14 : decode method_3_code 14 = .ok (.ldc2_w 24, 3) := by decide +kernel
theorem zq_d9_17 : decode method_3_code 17 = .ok (.lxor, 1) := by decide +kernel
theorem zq_d9_18 : decode method_3_code 18 = .ok (.lastore, 1) := by decide +kernel
theorem zq_d9_19 : decode method_3_code 19 = .ok (.dup, 1) := by decide +kernel
theorem zq_d9_20 : decode method_3_code 20 = .ok (.iconst 2, 1) := by decide +kernel
theorem zq_d9_21 : decode method_3_code 21 = .ok (.lload_n 0, 1) := by decide +kernel
theorem zq_d9_22 : decode method_3_code 22 = .ok (.ldc2_w 26, 3) := by decide +kernel
theorem zq_d9_25 : decode method_3_code 25 = .ok (.lxor, 1) := by decide +kernel
theorem zq_d9_26 : decode method_3_code 26 = .ok (.lastore, 1) := by decide +kernel
theorem zq_d9_27 : decode method_3_code 27 = .ok (.dup, 1) := by decide +kernel
theorem zq_d9_28 : decode method_3_code 28 = .ok (.iconst 3, 1) := by decide +kernel
theorem zq_d9_29 : decode method_3_code 29 = .ok (.lload_n 2, 1) := by decide +kernel
theorem zq_d9_30 : decode method_3_code 30 = .ok (.ldc2_w 28, 3) := by decide +kernel
theorem zq_d9_33 : decode method_3_code 33 = .ok (.lxor, 1) := by decide +kernel
theorem zq_d9_34 : decode method_3_code 34 = .ok (.lastore, 1) := by decide +kernel
theorem zq_d9_35 : decode method_3_code 35 = .ok (.astore 6, 2) := by decide +kernel
theorem zq_d9_37 : decode method_3_code 37 = .ok (.iconst 0, 1) := by decide +kernel
theorem zq_d9_38 : decode method_3_code 38 = .ok (.istore 7, 2) := by decide +kernel
theorem zq_d9_40 : decode method_3_code 40 = .ok (.iload 5, 2) := by decide +kernel
theorem zq_d9_42 : decode method_3_code 42 = .ok (.iconst 4, 1) := by decide +kernel
theorem zq_d9_43 : decode method_3_code 43 = .ok (.if_icmp .lt 20, 3) := by decide +kernel
theorem zq_d9_46 : decode method_3_code 46 = .ok (.aload 6, 2) := by decide +kernel
theorem zq_d9_48 : decode method_3_code 48 = .ok (.aload 4, 2) := by decide +kernel
theorem zq_d9_50 : decode method_3_code 50 = .ok (.iload 5, 2) := by decide +kernel
theorem zq_d9_52 : decode method_3_code 52 = .ok (.iconst 0, 1) := by decide +kernel
theorem zq_d9_53 : decode method_3_code 53 = .ok (.invokestatic 30, 3) := by decide +kernel
theorem zq_d9_56 : decode method_3_code 56 = .ok (.invokestatic 34, 3) := by decide +kernel
theorem zq_d9_59 : decode method_3_code 59 = .ok (.bipush 8, 2) := by decide +kernel
theorem zq_d9_61 : decode method_3_code 61 = .ok (.istore 7, 2) := by decide +kernel
theorem zq_d9_63 : decode method_3_code 63 = .ok (.aload 4, 2) := by decide +kernel
theorem zq_d9_65 : decode method_3_code 65 = .ok (.iload 5, 2) := by decide +kernel
theorem zq_d9_67 : decode method_3_code 67 = .ok (.iload 7, 2) := by decide +kernel
theorem zq_d9_69 : decode method_3_code 69 = .ok (.invokestatic 30, 3) := by decide +kernel
theorem zq_d9_72 : decode method_3_code 72 = .ok (.iconst 2, 1) := by decide +kernel
theorem zq_d9_73 : decode method_3_code 73 = .ok (.iload 5, 2) := by decide +kernel
theorem zq_d9_75 : decode method_3_code 75 = .ok (.imul, 1) := by decide +kernel
theorem zq_d9_76 : decode method_3_code 76 = .ok (.i2l, 1) := by decide +kernel
theorem zq_d9_77 : decode method_3_code 77 = .ok (.bipush 56, 2) := by decide +kernel
theorem zq_d9_79 : decode method_3_code 79 = .ok (.lshl, 1) := by decide +kernel
theorem zq_d9_80 : decode method_3_code 80 = .ok (.lor, 1) := by decide +kernel
theorem zq_d9_81 : decode method_3_code 81 = .ok (.lstore 8, 2) := by decide +kernel
theorem zq_d9_83 : decode method_3_code 83 = .ok (.aload 6, 2) := by decide +kernel
theorem zq_d9_85 : decode method_3_code 85 = .ok (.lload 8, 2) := by decide +kernel
theorem zq_d9_87 : decode method_3_code 87 = .ok (.invokestatic 34, 3) := by decide +kernel
theorem zq_d9_90 : decode method_3_code 90 = .ok (.aload 6, 2) := by decide +kernel
theorem zq_d9_92 : decode method_3_code 92 = .ok (.iconst 2, 1) := by decide +kernel
theorem zq_d9_93 : decode method_3_code 93 = .ok (.dup2, 1) := by decide +kernel
theorem zq_d9_94 : decode method_3_code 94 = .ok (.laload, 1) := by decide +kernel
theorem zq_d9_95 : decode method_3_code 95 = .ok (.ldc2_w 38, 3) := by decide +kernel
theorem zq_d9_98 : decode method_3_code 98 = .ok (.lxor, 1) := by decide +kernel
theorem zq_d9_99 : decode method_3_code 99 = .ok (.lastore, 1) := by decide +kernel
theorem zq_d9_100 : decode method_3_code 100 = .ok (.aload 6, 2) := by decide +kernel
theorem zq_d9_102 : decode method_3_code 102 = .ok (.invokestatic 40, 3) := by decide +kernel
theorem zq_d9_105 : decode method_3_code 105 = .ok (.aload 6, 2) := by decide +kernel
theorem zq_d9_107 : decode method_3_code 107 = .ok (.invokestatic 40, 3) := by decide +kernel
theorem zq_d9_110 : decode method_3_code 110 = .ok (.aload 6, 2) := by decide +kernel
theorem zq_d9_112 : decode method_3_code 112 = .ok (.invokestatic 40, 3) := by decide +kernel
theorem zq_d9_115 : decode method_3_code 115 = .ok (.aload 6, 2) := by decide +kernel
theorem zq_d9_117 : decode method_3_code 117 = .ok (.invokestatic 40, 3) := by decide +kernel
theorem zq_d9_120 : decode method_3_code 120 = .ok (.aload 6, 2) := by decide +kernel
theorem zq_d9_122 : decode method_3_code 122 = .ok (.iconst 0, 1) := by decide +kernel
theorem zq_d9_123 : decode method_3_code 123 = .ok (.laload, 1) := by decide +kernel
theorem zq_d9_124 : decode method_3_code 124 = .ok (.aload 6, 2) := by decide +kernel
theorem zq_d9_126 : decode method_3_code 126 = .ok (.iconst 1, 1) := by decide +kernel
theorem zq_d9_127 : decode method_3_code 127 = .ok (.laload, 1) := by decide +kernel
theorem zq_d9_128 : decode method_3_code 128 = .ok (.lxor, 1) := by decide +kernel
theorem zq_d9_129 : decode method_3_code 129 = .ok (.aload 6, 2) := by decide +kernel
theorem zq_d9_131 : decode method_3_code 131 = .ok (.iconst 2, 1) := by decide +kernel
theorem zq_d9_132 : decode method_3_code 132 = .ok (.laload, 1) := by decide +kernel
theorem zq_d9_133 : decode method_3_code 133 = .ok (.lxor, 1) := by decide +kernel
theorem zq_d9_134 : decode method_3_code 134 = .ok (.aload 6, 2) := by decide +kernel
theorem zq_d9_136 : decode method_3_code 136 = .ok (.iconst 3, 1) := by decide +kernel
theorem zq_d9_137 : decode method_3_code 137 = .ok (.laload, 1) := by decide +kernel
theorem zq_d9_138 : decode method_3_code 138 = .ok (.lxor, 1) := by decide +kernel
theorem zq_d9_139 : decode method_3_code 139 = .ok (.lstore 10, 2) := by decide +kernel
theorem zq_d9_141 : decode method_3_code 141 = .ok (.lload 10, 2) := by decide +kernel
theorem zq_d9_143 : decode method_3_code 143 = .ok (.lload 10, 2) := by decide +kernel
theorem zq_d9_145 : decode method_3_code 145 = .ok (.bipush 32, 2) := by decide +kernel
theorem zq_d9_147 : decode method_3_code 147 = .ok (.lushr, 1) := by decide +kernel
theorem zq_d9_148 : decode method_3_code 148 = .ok (.lxor, 1) := by decide +kernel
theorem zq_d9_149 : decode method_3_code 149 = .ok (.l2i, 1) := by decide +kernel
theorem zq_d9_150 : decode method_3_code 150 = .ok (.ireturn, 1) := by decide +kernel
theorem zq_ef9 (m : MethodId) (x0 : Int64) (x1 : Int64) (x2 : Addr) (x3 : Int32) : entryFrame m #[(.long x0), (.long x1), (.ref x2), (.int x3)] 12 = mkF m 0 #[.val (.long x0), .second, .val (.long x1), .second, .val (.ref x2), .val (.int x3), .unset, .unset, .unset, .unset, .unset, .unset] [] := by first | (simp [entryFrame, mkF, argsToLocals, Value.category]; done) | rfl
set_option maxRecDepth 65536 in
set_option maxHeartbeats 40000000 in
theorem zq_rmF (l : Launch) (Z : State) (a0 : Array Value) (hw : ∀ d ∈ tables_1, d.before a0 Z = true) (ws : List Jvm.Cond) (k0 : Int64) (k1 : Int64) (ca : Addr) (n : Int32) (h0 : Heap) (n0 : Nat) (cc : Nat → Int32) (N : Nat) (A_ca : zq_A Z h0 ca .char 7 (fun k => .int (cc k))) (hn : n = Nat.toInt32 N) (hN : N ≤ 7) (ZS : n0 ≤ h0.size) :
    zq_Met l Z (⟨"com/example/clearline/clearline/formats/TableHashOfPinLaw", "reference", "(JJ[CI)I"⟩ : MethodName) method_3_code 12 (some .int) ws ({ frames := 3, cells := 1, slots := 4, locals := 42 } : Room) #[(.long k0), (.long k1), (.ref ca), (.int n)] h0 (fun r h L => r = some (.int (zq_ref k0 k1 cc n)) ∧ Fr n0 L) := by
  refine zq_body (plainFor_of_name zq_pn1) ?_
  intro p e s m below meth c s₁ hx hZ hby hml hret hlk hown hnm X0 e0
  refine zq_go (fun _ kq => castTop (zq_ef9 m k0 k1 ca n) kq) ?_
  have NF := Fr.nil n0
  show zq_Go p e below s _ _ _ (s₁.setTop (mkF m 0 #[.val (.long k0), .second, .val (.long k1), .second, .val (.ref ca), .val (.int n), .unset, .unset, .unset, .unset, .unset, .unset] []))
  refine zq_go (fun _ kq => XS.iconst X0.here hx rfl (hb hby zq_d9_0) kq) ?_
  show zq_Go p e below s _ _ _ (s₁.setTop (mkF m 1 #[.val (.long k0), .second, .val (.long k1), .second, .val (.ref ca), .val (.int n), .unset, .unset, .unset, .unset, .unset, .unset] [(.int (4 : Int32))]))
  obtain ⟨T1, h1, b1, gb1, X1, e1, E1, A_b1, st1⟩ := zq_newA (aty := .long) X0 hx hZ (hw _ (List.mem_of_getElem? (i := 61) rfl)) e0 (g := (mkF m 1 #[.val (.long k0), .second, .val (.long k1), .second, .val (.ref ca), .val (.int n), .unset, .unset, .unset, .unset, .unset, .unset] [(.int (4 : Int32))])) rfl (hb hby zq_d9_1) rfl (by decide) (n := 4) (by decide) (cap := 4) (by decide) (by decide) (by decide) (by decide)
  have ne_ca_b1 : ca ≠ b1 := zq_ne A_ca.lt gb1
  have ne_b1_ca : b1 ≠ ca := zq_ne' A_ca.lt gb1
  have g_b1 : n0 ≤ b1 := by rw [gb1]; exact ZS
  have A_ca := A_ca.ext E1
  have ZS := Nat.le_trans ZS E1.1
  have X1 : Stand p l e ({ frames := 3, cells := 1, slots := 4, locals := 42 } : Room) s m #[(.long k0), (.long k1), (.ref ca), (.int n)] below meth c T1 [] 1 4 := X1
  have A_b1 : zq_A Z h1 b1 .long 4 (fun k => .long (([(0 : Int64), (0 : Int64), (0 : Int64), (0 : Int64)] : List Int64).getD k 0)) := A_b1.congr (fun j hj => by match j, hj with | 0, _ => rfl | 1, _ => rfl | 2, _ => rfl | 3, _ => rfl | (j + 4), hj => exact absurd hj (by omega))
  refine zq_go st1 ?_
  show zq_Go p e below s _ _ _ (T1.setTop (mkF m 3 #[.val (.long k0), .second, .val (.long k1), .second, .val (.ref ca), .val (.int n), .unset, .unset, .unset, .unset, .unset, .unset] [(.ref b1)]))
  refine zq_go (fun _ kq => XS.dup X1.here hx rfl (hb hby zq_d9_3) rfl rfl kq) ?_
  show zq_Go p e below s _ _ _ (T1.setTop (mkF m 4 #[.val (.long k0), .second, .val (.long k1), .second, .val (.ref ca), .val (.int n), .unset, .unset, .unset, .unset, .unset, .unset] [(.ref b1), (.ref b1)]))
  refine zq_go (fun _ kq => XS.iconst X1.here hx rfl (hb hby zq_d9_4) kq) ?_
  show zq_Go p e below s _ _ _ (T1.setTop (mkF m 5 #[.val (.long k0), .second, .val (.long k1), .second, .val (.ref ca), .val (.int n), .unset, .unset, .unset, .unset, .unset, .unset] [(.int (0 : Int32)), (.ref b1), (.ref b1)]))
  refine zq_go (fun _ kq => XS.lloadN X1.here hx rfl (hb hby zq_d9_5) rfl kq) ?_
  show zq_Go p e below s _ _ _ (T1.setTop (mkF m 6 #[.val (.long k0), .second, .val (.long k1), .second, .val (.ref ca), .val (.int n), .unset, .unset, .unset, .unset, .unset, .unset] [(.long k0), (.int (0 : Int32)), (.ref b1), (.ref b1)]))
  refine zq_go (X1.ldc2Long hx hown (mvT hZ (hw _ (List.mem_of_getElem? (i := 62) rfl))) (g := (mkF m 6 #[.val (.long k0), .second, .val (.long k1), .second, .val (.ref ca), .val (.int n), .unset, .unset, .unset, .unset, .unset, .unset] [(.long k0), (.int (0 : Int32)), (.ref b1), (.ref b1)])) rfl (hb hby zq_d9_6)) ?_
  show zq_Go p e below s _ _ _ (T1.setTop (mkF m 9 #[.val (.long k0), .second, .val (.long k1), .second, .val (.ref ca), .val (.int n), .unset, .unset, .unset, .unset, .unset, .unset] [(.long (8317987319222330741 : Int64)), (.long k0), (.int (0 : Int32)), (.ref b1), (.ref b1)]))
  refine zq_go (fun _ kq => XS.lxor X1.here hx rfl (hb hby zq_d9_9) rfl kq) ?_
  show zq_Go p e below s _ _ _ (T1.setTop (mkF m 10 #[.val (.long k0), .second, .val (.long k1), .second, .val (.ref ca), .val (.int n), .unset, .unset, .unset, .unset, .unset, .unset] [(.long (k0 ^^^ (8317987319222330741 : Int64))), (.int (0 : Int32)), (.ref b1), (.ref b1)]))
  obtain ⟨T2, h2, X2, e2, W2, A_b1, st2⟩ := zq_stJ X1 hx hZ e1 A_b1 (j := (0 : Int32)) (i := 0) (by decide) (by decide) (by decide) (g := (mkF m 10 #[.val (.long k0), .second, .val (.long k1), .second, .val (.ref ca), .val (.int n), .unset, .unset, .unset, .unset, .unset, .unset] [(.long (k0 ^^^ (8317987319222330741 : Int64))), (.int (0 : Int32)), (.ref b1), (.ref b1)])) rfl rfl (hb hby zq_d9_10)
  refine zq_go st2 ?_
  have A_ca := A_ca.other W2 ne_ca_b1
  have ZS := Nat.le_trans ZS (Keep.of_wr W2).1
  have A_b1 : zq_A Z h2 b1 .long 4 (fun k => .long (([(k0 ^^^ (8317987319222330741 : Int64)), (0 : Int64), (0 : Int64), (0 : Int64)] : List Int64).getD k 0)) := A_b1.congr (fun j hj => by match j, hj with | 0, _ => rfl | 1, _ => rfl | 2, _ => rfl | 3, _ => rfl | (j + 4), hj => exact absurd hj (by omega))
  obtain ⟨L2, X2, NF⟩ : ∃ L : List Loc, Stand p l e ({ frames := 3, cells := 1, slots := 4, locals := 42 } : Room) s m #[(.long k0), (.long k1), (.ref ca), (.int n)] below meth c T2 L 1 4 ∧ Fr n0 L := ⟨_, X2, Fr.snoc X2 NF g_b1⟩
  show zq_Go p e below s _ _ _ (T2.setTop (mkF m 11 #[.val (.long k0), .second, .val (.long k1), .second, .val (.ref ca), .val (.int n), .unset, .unset, .unset, .unset, .unset, .unset] [(.ref b1)]))
  refine zq_go (fun _ kq => XS.dup X2.here hx rfl (hb hby zq_d9_11) rfl rfl kq) ?_
  show zq_Go p e below s _ _ _ (T2.setTop (mkF m 12 #[.val (.long k0), .second, .val (.long k1), .second, .val (.ref ca), .val (.int n), .unset, .unset, .unset, .unset, .unset, .unset] [(.ref b1), (.ref b1)]))
  refine zq_go (fun _ kq => XS.iconst X2.here hx rfl (hb hby zq_d9_12) kq) ?_
  show zq_Go p e below s _ _ _ (T2.setTop (mkF m 13 #[.val (.long k0), .second, .val (.long k1), .second, .val (.ref ca), .val (.int n), .unset, .unset, .unset, .unset, .unset, .unset] [(.int (1 : Int32)), (.ref b1), (.ref b1)]))
  refine zq_go (fun _ kq => XS.lloadN X2.here hx rfl (hb hby zq_d9_13) rfl kq) ?_
  show zq_Go p e below s _ _ _ (T2.setTop (mkF m 14 #[.val (.long k0), .second, .val (.long k1), .second, .val (.ref ca), .val (.int n), .unset, .unset, .unset, .unset, .unset, .unset] [(.long k1), (.int (1 : Int32)), (.ref b1), (.ref b1)]))
  refine zq_go (X2.ldc2Long hx hown (mvT hZ (hw _ (List.mem_of_getElem? (i := 63) rfl))) (g := (mkF m 14 #[.val (.long k0), .second, .val (.long k1), .second, .val (.ref ca), .val (.int n), .unset, .unset, .unset, .unset, .unset, .unset] [(.long k1), (.int (1 : Int32)), (.ref b1), (.ref b1)])) rfl (hb hby zq_d9_14)) ?_
  show zq_Go p e below s _ _ _ (T2.setTop (mkF m 17 #[.val (.long k0), .second, .val (.long k1), .second, .val (.ref ca), .val (.int n), .unset, .unset, .unset, .unset, .unset, .unset] [(.long (7237128888997146477 : Int64)), (.long k1), (.int (1 : Int32)), (.ref b1), (.ref b1)]))
  refine zq_go (fun _ kq => XS.lxor X2.here hx rfl (hb hby zq_d9_17) rfl kq) ?_
  show zq_Go p e below s _ _ _ (T2.setTop (mkF m 18 #[.val (.long k0), .second, .val (.long k1), .second, .val (.ref ca), .val (.int n), .unset, .unset, .unset, .unset, .unset, .unset] [(.long (k1 ^^^ (7237128888997146477 : Int64))), (.int (1 : Int32)), (.ref b1), (.ref b1)]))
  obtain ⟨T3, h3, X3, e3, W3, A_b1, st3⟩ := zq_stJ X2 hx hZ e2 A_b1 (j := (1 : Int32)) (i := 1) (by decide) (by decide) (by decide) (g := (mkF m 18 #[.val (.long k0), .second, .val (.long k1), .second, .val (.ref ca), .val (.int n), .unset, .unset, .unset, .unset, .unset, .unset] [(.long (k1 ^^^ (7237128888997146477 : Int64))), (.int (1 : Int32)), (.ref b1), (.ref b1)])) rfl rfl (hb hby zq_d9_18)
  refine zq_go st3 ?_
  have A_ca := A_ca.other W3 ne_ca_b1
  have ZS := Nat.le_trans ZS (Keep.of_wr W3).1
  have A_b1 : zq_A Z h3 b1 .long 4 (fun k => .long (([(k0 ^^^ (8317987319222330741 : Int64)), (k1 ^^^ (7237128888997146477 : Int64)), (0 : Int64), (0 : Int64)] : List Int64).getD k 0)) := A_b1.congr (fun j hj => by match j, hj with | 0, _ => rfl | 1, _ => rfl | 2, _ => rfl | 3, _ => rfl | (j + 4), hj => exact absurd hj (by omega))
  obtain ⟨L3, X3, NF⟩ : ∃ L : List Loc, Stand p l e ({ frames := 3, cells := 1, slots := 4, locals := 42 } : Room) s m #[(.long k0), (.long k1), (.ref ca), (.int n)] below meth c T3 L 1 4 ∧ Fr n0 L := ⟨_, X3, Fr.snoc X3 NF g_b1⟩
  show zq_Go p e below s _ _ _ (T3.setTop (mkF m 19 #[.val (.long k0), .second, .val (.long k1), .second, .val (.ref ca), .val (.int n), .unset, .unset, .unset, .unset, .unset, .unset] [(.ref b1)]))
  refine zq_go (fun _ kq => XS.dup X3.here hx rfl (hb hby zq_d9_19) rfl rfl kq) ?_
  show zq_Go p e below s _ _ _ (T3.setTop (mkF m 20 #[.val (.long k0), .second, .val (.long k1), .second, .val (.ref ca), .val (.int n), .unset, .unset, .unset, .unset, .unset, .unset] [(.ref b1), (.ref b1)]))
  refine zq_go (fun _ kq => XS.iconst X3.here hx rfl (hb hby zq_d9_20) kq) ?_
  show zq_Go p e below s _ _ _ (T3.setTop (mkF m 21 #[.val (.long k0), .second, .val (.long k1), .second, .val (.ref ca), .val (.int n), .unset, .unset, .unset, .unset, .unset, .unset] [(.int (2 : Int32)), (.ref b1), (.ref b1)]))
  refine zq_go (fun _ kq => XS.lloadN X3.here hx rfl (hb hby zq_d9_21) rfl kq) ?_
  show zq_Go p e below s _ _ _ (T3.setTop (mkF m 22 #[.val (.long k0), .second, .val (.long k1), .second, .val (.ref ca), .val (.int n), .unset, .unset, .unset, .unset, .unset, .unset] [(.long k0), (.int (2 : Int32)), (.ref b1), (.ref b1)]))
  refine zq_go (X3.ldc2Long hx hown (mvT hZ (hw _ (List.mem_of_getElem? (i := 64) rfl))) (g := (mkF m 22 #[.val (.long k0), .second, .val (.long k1), .second, .val (.ref ca), .val (.int n), .unset, .unset, .unset, .unset, .unset, .unset] [(.long k0), (.int (2 : Int32)), (.ref b1), (.ref b1)])) rfl (hb hby zq_d9_22)) ?_
  show zq_Go p e below s _ _ _ (T3.setTop (mkF m 25 #[.val (.long k0), .second, .val (.long k1), .second, .val (.ref ca), .val (.int n), .unset, .unset, .unset, .unset, .unset, .unset] [(.long (7816392313619706465 : Int64)), (.long k0), (.int (2 : Int32)), (.ref b1), (.ref b1)]))
  refine zq_go (fun _ kq => XS.lxor X3.here hx rfl (hb hby zq_d9_25) rfl kq) ?_
  show zq_Go p e below s _ _ _ (T3.setTop (mkF m 26 #[.val (.long k0), .second, .val (.long k1), .second, .val (.ref ca), .val (.int n), .unset, .unset, .unset, .unset, .unset, .unset] [(.long (k0 ^^^ (7816392313619706465 : Int64))), (.int (2 : Int32)), (.ref b1), (.ref b1)]))
  obtain ⟨T4, h4, X4, e4, W4, A_b1, st4⟩ := zq_stJ X3 hx hZ e3 A_b1 (j := (2 : Int32)) (i := 2) (by decide) (by decide) (by decide) (g := (mkF m 26 #[.val (.long k0), .second, .val (.long k1), .second, .val (.ref ca), .val (.int n), .unset, .unset, .unset, .unset, .unset, .unset] [(.long (k0 ^^^ (7816392313619706465 : Int64))), (.int (2 : Int32)), (.ref b1), (.ref b1)])) rfl rfl (hb hby zq_d9_26)
  refine zq_go st4 ?_
  have A_ca := A_ca.other W4 ne_ca_b1
  have ZS := Nat.le_trans ZS (Keep.of_wr W4).1
  have A_b1 : zq_A Z h4 b1 .long 4 (fun k => .long (([(k0 ^^^ (8317987319222330741 : Int64)), (k1 ^^^ (7237128888997146477 : Int64)), (k0 ^^^ (7816392313619706465 : Int64)), (0 : Int64)] : List Int64).getD k 0)) := A_b1.congr (fun j hj => by match j, hj with | 0, _ => rfl | 1, _ => rfl | 2, _ => rfl | 3, _ => rfl | (j + 4), hj => exact absurd hj (by omega))
  obtain ⟨L4, X4, NF⟩ : ∃ L : List Loc, Stand p l e ({ frames := 3, cells := 1, slots := 4, locals := 42 } : Room) s m #[(.long k0), (.long k1), (.ref ca), (.int n)] below meth c T4 L 1 4 ∧ Fr n0 L := ⟨_, X4, Fr.snoc X4 NF g_b1⟩
  show zq_Go p e below s _ _ _ (T4.setTop (mkF m 27 #[.val (.long k0), .second, .val (.long k1), .second, .val (.ref ca), .val (.int n), .unset, .unset, .unset, .unset, .unset, .unset] [(.ref b1)]))
  refine zq_go (fun _ kq => XS.dup X4.here hx rfl (hb hby zq_d9_27) rfl rfl kq) ?_
  show zq_Go p e below s _ _ _ (T4.setTop (mkF m 28 #[.val (.long k0), .second, .val (.long k1), .second, .val (.ref ca), .val (.int n), .unset, .unset, .unset, .unset, .unset, .unset] [(.ref b1), (.ref b1)]))
  refine zq_go (fun _ kq => XS.iconst X4.here hx rfl (hb hby zq_d9_28) kq) ?_
  show zq_Go p e below s _ _ _ (T4.setTop (mkF m 29 #[.val (.long k0), .second, .val (.long k1), .second, .val (.ref ca), .val (.int n), .unset, .unset, .unset, .unset, .unset, .unset] [(.int (3 : Int32)), (.ref b1), (.ref b1)]))
  refine zq_go (fun _ kq => XS.lloadN X4.here hx rfl (hb hby zq_d9_29) rfl kq) ?_
  show zq_Go p e below s _ _ _ (T4.setTop (mkF m 30 #[.val (.long k0), .second, .val (.long k1), .second, .val (.ref ca), .val (.int n), .unset, .unset, .unset, .unset, .unset, .unset] [(.long k1), (.int (3 : Int32)), (.ref b1), (.ref b1)]))
  refine zq_go (X4.ldc2Long hx hown (mvT hZ (hw _ (List.mem_of_getElem? (i := 65) rfl))) (g := (mkF m 30 #[.val (.long k0), .second, .val (.long k1), .second, .val (.ref ca), .val (.int n), .unset, .unset, .unset, .unset, .unset, .unset] [(.long k1), (.int (3 : Int32)), (.ref b1), (.ref b1)])) rfl (hb hby zq_d9_30)) ?_
  show zq_Go p e below s _ _ _ (T4.setTop (mkF m 33 #[.val (.long k0), .second, .val (.long k1), .second, .val (.ref ca), .val (.int n), .unset, .unset, .unset, .unset, .unset, .unset] [(.long (8387220255154660723 : Int64)), (.long k1), (.int (3 : Int32)), (.ref b1), (.ref b1)]))
  refine zq_go (fun _ kq => XS.lxor X4.here hx rfl (hb hby zq_d9_33) rfl kq) ?_
  show zq_Go p e below s _ _ _ (T4.setTop (mkF m 34 #[.val (.long k0), .second, .val (.long k1), .second, .val (.ref ca), .val (.int n), .unset, .unset, .unset, .unset, .unset, .unset] [(.long (k1 ^^^ (8387220255154660723 : Int64))), (.int (3 : Int32)), (.ref b1), (.ref b1)]))
  obtain ⟨T5, h5, X5, e5, W5, A_b1, st5⟩ := zq_stJ X4 hx hZ e4 A_b1 (j := (3 : Int32)) (i := 3) (by decide) (by decide) (by decide) (g := (mkF m 34 #[.val (.long k0), .second, .val (.long k1), .second, .val (.ref ca), .val (.int n), .unset, .unset, .unset, .unset, .unset, .unset] [(.long (k1 ^^^ (8387220255154660723 : Int64))), (.int (3 : Int32)), (.ref b1), (.ref b1)])) rfl rfl (hb hby zq_d9_34)
  refine zq_go st5 ?_
  have A_ca := A_ca.other W5 ne_ca_b1
  have ZS := Nat.le_trans ZS (Keep.of_wr W5).1
  have A_b1 : zq_A Z h5 b1 .long 4 (fun k => .long (([(k0 ^^^ (8317987319222330741 : Int64)), (k1 ^^^ (7237128888997146477 : Int64)), (k0 ^^^ (7816392313619706465 : Int64)), (k1 ^^^ (8387220255154660723 : Int64))] : List Int64).getD k 0)) := A_b1.congr (fun j hj => by match j, hj with | 0, _ => rfl | 1, _ => rfl | 2, _ => rfl | 3, _ => rfl | (j + 4), hj => exact absurd hj (by omega))
  obtain ⟨L5, X5, NF⟩ : ∃ L : List Loc, Stand p l e ({ frames := 3, cells := 1, slots := 4, locals := 42 } : Room) s m #[(.long k0), (.long k1), (.ref ca), (.int n)] below meth c T5 L 1 4 ∧ Fr n0 L := ⟨_, X5, Fr.snoc X5 NF g_b1⟩
  show zq_Go p e below s _ _ _ (T5.setTop (mkF m 35 #[.val (.long k0), .second, .val (.long k1), .second, .val (.ref ca), .val (.int n), .unset, .unset, .unset, .unset, .unset, .unset] [(.ref b1)]))
  refine zq_go (fun _ kq => XS.astore X5.here hx rfl (hb hby zq_d9_35) rfl rfl (l' := #[.val (.long k0), .second, .val (.long k1), .second, .val (.ref ca), .val (.int n), .val (.ref b1), .unset, .unset, .unset, .unset, .unset]) rfl kq) ?_
  show zq_Go p e below s _ _ _ (T5.setTop (mkF m 37 #[.val (.long k0), .second, .val (.long k1), .second, .val (.ref ca), .val (.int n), .val (.ref b1), .unset, .unset, .unset, .unset, .unset] []))
  refine zq_go (fun _ kq => XS.iconst X5.here hx rfl (hb hby zq_d9_37) kq) ?_
  show zq_Go p e below s _ _ _ (T5.setTop (mkF m 38 #[.val (.long k0), .second, .val (.long k1), .second, .val (.ref ca), .val (.int n), .val (.ref b1), .unset, .unset, .unset, .unset, .unset] [(.int (0 : Int32))]))
  refine zq_go (fun _ kq => XS.istore X5.here hx rfl (hb hby zq_d9_38) rfl (l' := #[.val (.long k0), .second, .val (.long k1), .second, .val (.ref ca), .val (.int n), .val (.ref b1), .val (.int (0 : Int32)), .unset, .unset, .unset, .unset]) rfl kq) ?_
  show zq_Go p e below s _ _ _ (T5.setTop (mkF m 40 #[.val (.long k0), .second, .val (.long k1), .second, .val (.ref ca), .val (.int n), .val (.ref b1), .val (.int (0 : Int32)), .unset, .unset, .unset, .unset] []))
  refine zq_go (fun _ kq => XS.iload X5.here hx rfl (hb hby zq_d9_40) rfl kq) ?_
  show zq_Go p e below s _ _ _ (T5.setTop (mkF m 42 #[.val (.long k0), .second, .val (.long k1), .second, .val (.ref ca), .val (.int n), .val (.ref b1), .val (.int (0 : Int32)), .unset, .unset, .unset, .unset] [(.int n)]))
  refine zq_go (fun _ kq => XS.iconst X5.here hx rfl (hb hby zq_d9_42) kq) ?_
  show zq_Go p e below s _ _ _ (T5.setTop (mkF m 43 #[.val (.long k0), .second, .val (.long k1), .second, .val (.ref ca), .val (.int n), .val (.ref b1), .val (.int (0 : Int32)), .unset, .unset, .unset, .unset] [(.int (4 : Int32)), (.int n)]))
  have J63 : ∀ (v : zq_V) (bs : Int32) (q : Nat) (T9 : State) (h9 : Heap) (L9 : List Loc), Stand p l e ({ frames := 3, cells := 1, slots := 4, locals := 42 } : Room) s m #[(.long k0), (.long k1), (.ref ca), (.int n)] below meth c T9 L9 1 4 → T9.heap = h9 → Fr n0 L9 → n0 ≤ h9.size → zq_A Z h9 b1 .long 4 (fun k => .long (([v.1, v.2.1, v.2.2.1, v.2.2.2] : List Int64).getD k 0)) → zq_A Z h9 ca .char 7 (fun k => .int (cc k)) → v = zq_rv k0 k1 cc n → bs = zq_bs n → bs = Nat.toInt32 (8 * q) → q ≤ 1 → zq_Go p e below s (fun r h L => r = some (.int (zq_ref k0 k1 cc n)) ∧ Fr n0 L) ({ frames := 3, cells := 1, slots := 4, locals := 42 } : Room).cells ({ frames := 3, cells := 1, slots := 4, locals := 42 } : Room).slots (T9.setTop (mkF m 63 #[.val (.long k0), .second, .val (.long k1), .second, .val (.ref ca), .val (.int n), .val (.ref b1), .val (.int bs), .unset, .unset, .unset, .unset] [])) := by
    intro v bs q T9 h9 L9 X9 e9 NF ZS A_b1 A_ca hv hbs hbq hq1
    show zq_Go p e below s _ _ _ (T9.setTop (mkF m 63 #[.val (.long k0), .second, .val (.long k1), .second, .val (.ref ca), .val (.int n), .val (.ref b1), .val (.int bs), .unset, .unset, .unset, .unset] []))
    refine zq_go (fun _ kq => XS.aload X9.here hx rfl (hb hby zq_d9_63) rfl rfl kq) ?_
    show zq_Go p e below s _ _ _ (T9.setTop (mkF m 65 #[.val (.long k0), .second, .val (.long k1), .second, .val (.ref ca), .val (.int n), .val (.ref b1), .val (.int bs), .unset, .unset, .unset, .unset] [(.ref ca)]))
    refine zq_go (fun _ kq => XS.iload X9.here hx rfl (hb hby zq_d9_65) rfl kq) ?_
    show zq_Go p e below s _ _ _ (T9.setTop (mkF m 67 #[.val (.long k0), .second, .val (.long k1), .second, .val (.ref ca), .val (.int n), .val (.ref b1), .val (.int bs), .unset, .unset, .unset, .unset] [(.int n), (.ref ca)]))
    refine zq_go (fun _ kq => XS.iload X9.here hx rfl (hb hby zq_d9_67) rfl kq) ?_
    show zq_Go p e below s _ _ _ (T9.setTop (mkF m 69 #[.val (.long k0), .second, .val (.long k1), .second, .val (.ref ca), .val (.int n), .val (.ref b1), .val (.int bs), .unset, .unset, .unset, .unset] [(.int bs), (.int n), (.ref ca)]))
    obtain ⟨T6, X6, e6, st6⟩ := zq_callP (W := 0) X9 hx hZ hown (hw _ (List.mem_of_getElem? (i := 66) rfl)) (hw _ (List.mem_of_getElem? (i := 67) rfl)) (hw _ (List.mem_of_getElem? (i := 59) rfl)) (hw _ (List.mem_of_getElem? (i := 68) rfl)) (by decide) (zq_rmW l Z a0 hw [] ca n bs h9 cc N q A_ca hn hbq hN hq1) e9 (by decide) (by decide) rfl rfl (by decide) (by decide) (g := (mkF m 69 #[.val (.long k0), .second, .val (.long k1), .second, .val (.ref ca), .val (.int n), .val (.ref b1), .val (.int bs), .unset, .unset, .unset, .unset] [(.int bs), (.int n), (.ref ca)])) rfl (by rw [hml]; rfl) (argsL := [(.ref ca), (.int n), (.int bs)]) (rest := []) (lenOf zq_pd10 rfl) rfl (by show 2 * 0 + _ ≤ _; exact Nat.le_of_eq rfl) (hb hby zq_d9_69)
    refine zq_go st6 ?_
    show zq_Go p e below s _ _ _ (T6.setTop (mkF m 72 #[.val (.long k0), .second, .val (.long k1), .second, .val (.ref ca), .val (.int n), .val (.ref b1), .val (.int bs), .unset, .unset, .unset, .unset] [(.long (zq_wd cc n bs))]))
    refine zq_go (fun _ kq => XS.iconst X6.here hx rfl (hb hby zq_d9_72) kq) ?_
    show zq_Go p e below s _ _ _ (T6.setTop (mkF m 73 #[.val (.long k0), .second, .val (.long k1), .second, .val (.ref ca), .val (.int n), .val (.ref b1), .val (.int bs), .unset, .unset, .unset, .unset] [(.int (2 : Int32)), (.long (zq_wd cc n bs))]))
    refine zq_go (fun _ kq => XS.iload X6.here hx rfl (hb hby zq_d9_73) rfl kq) ?_
    show zq_Go p e below s _ _ _ (T6.setTop (mkF m 75 #[.val (.long k0), .second, .val (.long k1), .second, .val (.ref ca), .val (.int n), .val (.ref b1), .val (.int bs), .unset, .unset, .unset, .unset] [(.int n), (.int (2 : Int32)), (.long (zq_wd cc n bs))]))
    refine zq_go (fun _ kq => XS.imul X6.here hx rfl (hb hby zq_d9_75) rfl kq) ?_
    show zq_Go p e below s _ _ _ (T6.setTop (mkF m 76 #[.val (.long k0), .second, .val (.long k1), .second, .val (.ref ca), .val (.int n), .val (.ref b1), .val (.int bs), .unset, .unset, .unset, .unset] [(.int ((2 : Int32) * n)), (.long (zq_wd cc n bs))]))
    refine zq_go (fun _ kq => XS.i2l X6.here hx rfl (hb hby zq_d9_76) rfl kq) ?_
    show zq_Go p e below s _ _ _ (T6.setTop (mkF m 77 #[.val (.long k0), .second, .val (.long k1), .second, .val (.ref ca), .val (.int n), .val (.ref b1), .val (.int bs), .unset, .unset, .unset, .unset] [(.long (((2 : Int32) * n).toInt64)), (.long (zq_wd cc n bs))]))
    refine zq_go (fun _ kq => XS.bipush X6.here hx rfl (hb hby zq_d9_77) kq) ?_
    show zq_Go p e below s _ _ _ (T6.setTop (mkF m 79 #[.val (.long k0), .second, .val (.long k1), .second, .val (.ref ca), .val (.int n), .val (.ref b1), .val (.int bs), .unset, .unset, .unset, .unset] [(.int (56 : Int32)), (.long (((2 : Int32) * n).toInt64)), (.long (zq_wd cc n bs))]))
    refine zq_go (fun _ kq => XS.lshl X6.here hx rfl (hb hby zq_d9_79) rfl kq) ?_
    show zq_Go p e below s _ _ _ (T6.setTop (mkF m 80 #[.val (.long k0), .second, .val (.long k1), .second, .val (.ref ca), .val (.int n), .val (.ref b1), .val (.int bs), .unset, .unset, .unset, .unset] [(.long ((((2 : Int32) * n).toInt64) <<< ((56 : Int32) &&& 0x3f).toInt64)), (.long (zq_wd cc n bs))]))
    refine zq_go (fun _ kq => XS.lor X6.here hx rfl (hb hby zq_d9_80) rfl kq) ?_
    show zq_Go p e below s _ _ _ (T6.setTop (mkF m 81 #[.val (.long k0), .second, .val (.long k1), .second, .val (.ref ca), .val (.int n), .val (.ref b1), .val (.int bs), .unset, .unset, .unset, .unset] [(.long ((zq_wd cc n bs) ||| ((((2 : Int32) * n).toInt64) <<< ((56 : Int32) &&& 0x3f).toInt64)))]))
    refine zq_go (fun _ kq => XS.lstore X6.here hx rfl (hb hby zq_d9_81) rfl (l' := #[.val (.long k0), .second, .val (.long k1), .second, .val (.ref ca), .val (.int n), .val (.ref b1), .val (.int bs), .val (.long ((zq_wd cc n bs) ||| ((((2 : Int32) * n).toInt64) <<< ((56 : Int32) &&& 0x3f).toInt64))), .second, .unset, .unset]) rfl kq) ?_
    show zq_Go p e below s _ _ _ (T6.setTop (mkF m 83 #[.val (.long k0), .second, .val (.long k1), .second, .val (.ref ca), .val (.int n), .val (.ref b1), .val (.int bs), .val (.long ((zq_wd cc n bs) ||| ((((2 : Int32) * n).toInt64) <<< ((56 : Int32) &&& 0x3f).toInt64))), .second, .unset, .unset] []))
    refine zq_go (fun _ kq => XS.aload X6.here hx rfl (hb hby zq_d9_83) rfl rfl kq) ?_
    show zq_Go p e below s _ _ _ (T6.setTop (mkF m 85 #[.val (.long k0), .second, .val (.long k1), .second, .val (.ref ca), .val (.int n), .val (.ref b1), .val (.int bs), .val (.long ((zq_wd cc n bs) ||| ((((2 : Int32) * n).toInt64) <<< ((56 : Int32) &&& 0x3f).toInt64))), .second, .unset, .unset] [(.ref b1)]))
    refine zq_go (fun _ kq => XS.lload X6.here hx rfl (hb hby zq_d9_85) rfl kq) ?_
    show zq_Go p e below s _ _ _ (T6.setTop (mkF m 87 #[.val (.long k0), .second, .val (.long k1), .second, .val (.ref ca), .val (.int n), .val (.ref b1), .val (.int bs), .val (.long ((zq_wd cc n bs) ||| ((((2 : Int32) * n).toInt64) <<< ((56 : Int32) &&& 0x3f).toInt64))), .second, .unset, .unset] [(.long ((zq_wd cc n bs) ||| ((((2 : Int32) * n).toInt64) <<< ((56 : Int32) &&& 0x3f).toInt64))), (.ref b1)]))
    obtain ⟨_, T7, L7, X7, ⟨rfl, Nq7, K7, Aq7⟩, st7⟩ := zq_callS (W := 0) X6 hx hZ hown (hw _ (List.mem_of_getElem? (i := 72) rfl)) (hw _ (List.mem_of_getElem? (i := 73) rfl)) (hw _ (List.mem_of_getElem? (i := 59) rfl)) (hw _ (List.mem_of_getElem? (i := 74) rfl)) (by decide) (zq_rmC l Z a0 hw [] b1 ((zq_wd cc n bs) ||| ((((2 : Int32) * n).toInt64) <<< ((56 : Int32) &&& 0x3f).toInt64)) h9 n0 (v.1, v.2.1, v.2.2.1, v.2.2.2) A_b1 g_b1) e6 (by decide) (by decide) (by decide) (by decide) (g := (mkF m 87 #[.val (.long k0), .second, .val (.long k1), .second, .val (.ref ca), .val (.int n), .val (.ref b1), .val (.int bs), .val (.long ((zq_wd cc n bs) ||| ((((2 : Int32) * n).toInt64) <<< ((56 : Int32) &&& 0x3f).toInt64))), .second, .unset, .unset] [(.long ((zq_wd cc n bs) ||| ((((2 : Int32) * n).toInt64) <<< ((56 : Int32) &&& 0x3f).toInt64))), (.ref b1)])) rfl (by rw [hml]; rfl) (argsL := [(.ref b1), (.long ((zq_wd cc n bs) ||| ((((2 : Int32) * n).toInt64) <<< ((56 : Int32) &&& 0x3f).toInt64)))]) (rest := []) (lenOf zq_pd11 rfl) rfl (by show 2 * 0 + _ ≤ _; exact Nat.le_of_eq rfl) (hb hby zq_d9_87)
    have A_ca := A_ca.keep K7 (ninS ne_ca_b1 nin0)
    have ZS := Nat.le_trans ZS K7.1
    obtain ⟨t7, ht7⟩ : ∃ z : zq_V, z = zq_tk zq_rd2 (v.1, v.2.1, v.2.2.1, v.2.2.2) ((zq_wd cc n bs) ||| ((((2 : Int32) * n).toInt64) <<< ((56 : Int32) &&& 0x3f).toInt64)) := ⟨_, rfl⟩
    have A_b1 : zq_A Z T7.heap b1 .long 4 (fun k => .long (([t7.1, t7.2.1, t7.2.2.1, t7.2.2.2] : List Int64).getD k 0)) := by rw [ht7]; exact Aq7
    obtain ⟨L7, X7, NF⟩ : ∃ L : List Loc, Stand p l e ({ frames := 3, cells := 1, slots := 4, locals := 42 } : Room) s m #[(.long k0), (.long k1), (.ref ca), (.int n)] below meth c T7 L 1 4 ∧ Fr n0 L := ⟨_, X7, Fr.app NF Nq7⟩
    refine zq_go st7 ?_
    show zq_Go p e below s _ _ _ (T7.setTop (mkF m 90 #[.val (.long k0), .second, .val (.long k1), .second, .val (.ref ca), .val (.int n), .val (.ref b1), .val (.int bs), .val (.long ((zq_wd cc n bs) ||| ((((2 : Int32) * n).toInt64) <<< ((56 : Int32) &&& 0x3f).toInt64))), .second, .unset, .unset] []))
    refine zq_go (fun _ kq => XS.aload X7.here hx rfl (hb hby zq_d9_90) rfl rfl kq) ?_
    show zq_Go p e below s _ _ _ (T7.setTop (mkF m 92 #[.val (.long k0), .second, .val (.long k1), .second, .val (.ref ca), .val (.int n), .val (.ref b1), .val (.int bs), .val (.long ((zq_wd cc n bs) ||| ((((2 : Int32) * n).toInt64) <<< ((56 : Int32) &&& 0x3f).toInt64))), .second, .unset, .unset] [(.ref b1)]))
    refine zq_go (fun _ kq => XS.iconst X7.here hx rfl (hb hby zq_d9_92) kq) ?_
    show zq_Go p e below s _ _ _ (T7.setTop (mkF m 93 #[.val (.long k0), .second, .val (.long k1), .second, .val (.ref ca), .val (.int n), .val (.ref b1), .val (.int bs), .val (.long ((zq_wd cc n bs) ||| ((((2 : Int32) * n).toInt64) <<< ((56 : Int32) &&& 0x3f).toInt64))), .second, .unset, .unset] [(.int (2 : Int32)), (.ref b1)]))
    refine zq_go (fun _ kq => Jvm.Free.XT.dup2 X7.here hx rfl (hb hby zq_d9_93) rfl rfl rfl kq) ?_
    show zq_Go p e below s _ _ _ (T7.setTop (mkF m 94 #[.val (.long k0), .second, .val (.long k1), .second, .val (.ref ca), .val (.int n), .val (.ref b1), .val (.int bs), .val (.long ((zq_wd cc n bs) ||| ((((2 : Int32) * n).toInt64) <<< ((56 : Int32) &&& 0x3f).toInt64))), .second, .unset, .unset] [(.int (2 : Int32)), (.ref b1), (.int (2 : Int32)), (.ref b1)]))
    refine zq_go (zq_ldJ X7 hx hZ rfl A_b1 (j := (2 : Int32)) (i := 2) (by decide) (by decide) (by decide) (g := (mkF m 94 #[.val (.long k0), .second, .val (.long k1), .second, .val (.ref ca), .val (.int n), .val (.ref b1), .val (.int bs), .val (.long ((zq_wd cc n bs) ||| ((((2 : Int32) * n).toInt64) <<< ((56 : Int32) &&& 0x3f).toInt64))), .second, .unset, .unset] [(.int (2 : Int32)), (.ref b1), (.int (2 : Int32)), (.ref b1)])) rfl rfl (hb hby zq_d9_94)) ?_
    show zq_Go p e below s _ _ _ (T7.setTop (mkF m 95 #[.val (.long k0), .second, .val (.long k1), .second, .val (.ref ca), .val (.int n), .val (.ref b1), .val (.int bs), .val (.long ((zq_wd cc n bs) ||| ((((2 : Int32) * n).toInt64) <<< ((56 : Int32) &&& 0x3f).toInt64))), .second, .unset, .unset] [(.long t7.2.2.1), (.int (2 : Int32)), (.ref b1)]))
    refine zq_go (X7.ldc2Long hx hown (mvT hZ (hw _ (List.mem_of_getElem? (i := 81) rfl))) (g := (mkF m 95 #[.val (.long k0), .second, .val (.long k1), .second, .val (.ref ca), .val (.int n), .val (.ref b1), .val (.int bs), .val (.long ((zq_wd cc n bs) ||| ((((2 : Int32) * n).toInt64) <<< ((56 : Int32) &&& 0x3f).toInt64))), .second, .unset, .unset] [(.long t7.2.2.1), (.int (2 : Int32)), (.ref b1)])) rfl (hb hby zq_d9_95)) ?_
    show zq_Go p e below s _ _ _ (T7.setTop (mkF m 98 #[.val (.long k0), .second, .val (.long k1), .second, .val (.ref ca), .val (.int n), .val (.ref b1), .val (.int bs), .val (.long ((zq_wd cc n bs) ||| ((((2 : Int32) * n).toInt64) <<< ((56 : Int32) &&& 0x3f).toInt64))), .second, .unset, .unset] [(.long (255 : Int64)), (.long t7.2.2.1), (.int (2 : Int32)), (.ref b1)]))
    refine zq_go (fun _ kq => XS.lxor X7.here hx rfl (hb hby zq_d9_98) rfl kq) ?_
    show zq_Go p e below s _ _ _ (T7.setTop (mkF m 99 #[.val (.long k0), .second, .val (.long k1), .second, .val (.ref ca), .val (.int n), .val (.ref b1), .val (.int bs), .val (.long ((zq_wd cc n bs) ||| ((((2 : Int32) * n).toInt64) <<< ((56 : Int32) &&& 0x3f).toInt64))), .second, .unset, .unset] [(.long (t7.2.2.1 ^^^ (255 : Int64))), (.int (2 : Int32)), (.ref b1)]))
    obtain ⟨T8, h8, X8, e8, W8, A_b1, st8⟩ := zq_stJ X7 hx hZ rfl A_b1 (j := (2 : Int32)) (i := 2) (by decide) (by decide) (by decide) (g := (mkF m 99 #[.val (.long k0), .second, .val (.long k1), .second, .val (.ref ca), .val (.int n), .val (.ref b1), .val (.int bs), .val (.long ((zq_wd cc n bs) ||| ((((2 : Int32) * n).toInt64) <<< ((56 : Int32) &&& 0x3f).toInt64))), .second, .unset, .unset] [(.long (t7.2.2.1 ^^^ (255 : Int64))), (.int (2 : Int32)), (.ref b1)])) rfl rfl (hb hby zq_d9_99)
    refine zq_go st8 ?_
    have A_ca := A_ca.other W8 ne_ca_b1
    have ZS := Nat.le_trans ZS (Keep.of_wr W8).1
    have A_b1 : zq_A Z h8 b1 .long 4 (fun k => .long (([t7.1, t7.2.1, (t7.2.2.1 ^^^ (255 : Int64)), t7.2.2.2] : List Int64).getD k 0)) := A_b1.congr (fun j hj => by match j, hj with | 0, _ => rfl | 1, _ => rfl | 2, _ => rfl | 3, _ => rfl | (j + 4), hj => exact absurd hj (by omega))
    obtain ⟨L8, X8, NF⟩ : ∃ L : List Loc, Stand p l e ({ frames := 3, cells := 1, slots := 4, locals := 42 } : Room) s m #[(.long k0), (.long k1), (.ref ca), (.int n)] below meth c T8 L 1 4 ∧ Fr n0 L := ⟨_, X8, Fr.snoc X8 NF g_b1⟩
    show zq_Go p e below s _ _ _ (T8.setTop (mkF m 100 #[.val (.long k0), .second, .val (.long k1), .second, .val (.ref ca), .val (.int n), .val (.ref b1), .val (.int bs), .val (.long ((zq_wd cc n bs) ||| ((((2 : Int32) * n).toInt64) <<< ((56 : Int32) &&& 0x3f).toInt64))), .second, .unset, .unset] []))
    refine zq_go (fun _ kq => XS.aload X8.here hx rfl (hb hby zq_d9_100) rfl rfl kq) ?_
    show zq_Go p e below s _ _ _ (T8.setTop (mkF m 102 #[.val (.long k0), .second, .val (.long k1), .second, .val (.ref ca), .val (.int n), .val (.ref b1), .val (.int bs), .val (.long ((zq_wd cc n bs) ||| ((((2 : Int32) * n).toInt64) <<< ((56 : Int32) &&& 0x3f).toInt64))), .second, .unset, .unset] [(.ref b1)]))
    obtain ⟨_, T9, L9, X9, ⟨rfl, Nq9, K9, Aq9⟩, st9⟩ := zq_callS (W := 0) X8 hx hZ hown (hw _ (List.mem_of_getElem? (i := 75) rfl)) (hw _ (List.mem_of_getElem? (i := 76) rfl)) (hw _ (List.mem_of_getElem? (i := 59) rfl)) (hw _ (List.mem_of_getElem? (i := 77) rfl)) (by decide) (zq_rmR l Z a0 hw [] b1 h8 n0 (t7.1, t7.2.1, (t7.2.2.1 ^^^ (255 : Int64)), t7.2.2.2) A_b1 g_b1) e8 (by decide) (by decide) (by decide) (by decide) (g := (mkF m 102 #[.val (.long k0), .second, .val (.long k1), .second, .val (.ref ca), .val (.int n), .val (.ref b1), .val (.int bs), .val (.long ((zq_wd cc n bs) ||| ((((2 : Int32) * n).toInt64) <<< ((56 : Int32) &&& 0x3f).toInt64))), .second, .unset, .unset] [(.ref b1)])) rfl (by rw [hml]; rfl) (argsL := [(.ref b1)]) (rest := []) (lenOf zq_pd9 rfl) rfl (by show 2 * 0 + _ ≤ _; exact Nat.le_of_eq rfl) (hb hby zq_d9_102)
    have A_ca := A_ca.keep K9 (ninS ne_ca_b1 nin0)
    have ZS := Nat.le_trans ZS K9.1
    obtain ⟨t9, ht9⟩ : ∃ z : zq_V, z = zq_rd2 (t7.1, t7.2.1, (t7.2.2.1 ^^^ (255 : Int64)), t7.2.2.2) := ⟨_, rfl⟩
    have A_b1 : zq_A Z T9.heap b1 .long 4 (fun k => .long (([t9.1, t9.2.1, t9.2.2.1, t9.2.2.2] : List Int64).getD k 0)) := by rw [ht9]; exact Aq9
    obtain ⟨L9, X9, NF⟩ : ∃ L : List Loc, Stand p l e ({ frames := 3, cells := 1, slots := 4, locals := 42 } : Room) s m #[(.long k0), (.long k1), (.ref ca), (.int n)] below meth c T9 L 1 4 ∧ Fr n0 L := ⟨_, X9, Fr.app NF Nq9⟩
    refine zq_go st9 ?_
    show zq_Go p e below s _ _ _ (T9.setTop (mkF m 105 #[.val (.long k0), .second, .val (.long k1), .second, .val (.ref ca), .val (.int n), .val (.ref b1), .val (.int bs), .val (.long ((zq_wd cc n bs) ||| ((((2 : Int32) * n).toInt64) <<< ((56 : Int32) &&& 0x3f).toInt64))), .second, .unset, .unset] []))
    refine zq_go (fun _ kq => XS.aload X9.here hx rfl (hb hby zq_d9_105) rfl rfl kq) ?_
    show zq_Go p e below s _ _ _ (T9.setTop (mkF m 107 #[.val (.long k0), .second, .val (.long k1), .second, .val (.ref ca), .val (.int n), .val (.ref b1), .val (.int bs), .val (.long ((zq_wd cc n bs) ||| ((((2 : Int32) * n).toInt64) <<< ((56 : Int32) &&& 0x3f).toInt64))), .second, .unset, .unset] [(.ref b1)]))
    obtain ⟨_, T10, L10, X10, ⟨rfl, Nq10, K10, Aq10⟩, st10⟩ := zq_callS (W := 0) X9 hx hZ hown (hw _ (List.mem_of_getElem? (i := 75) rfl)) (hw _ (List.mem_of_getElem? (i := 76) rfl)) (hw _ (List.mem_of_getElem? (i := 59) rfl)) (hw _ (List.mem_of_getElem? (i := 77) rfl)) (by decide) (zq_rmR l Z a0 hw [] b1 T9.heap n0 (t9.1, t9.2.1, t9.2.2.1, t9.2.2.2) A_b1 g_b1) rfl (by decide) (by decide) (by decide) (by decide) (g := (mkF m 107 #[.val (.long k0), .second, .val (.long k1), .second, .val (.ref ca), .val (.int n), .val (.ref b1), .val (.int bs), .val (.long ((zq_wd cc n bs) ||| ((((2 : Int32) * n).toInt64) <<< ((56 : Int32) &&& 0x3f).toInt64))), .second, .unset, .unset] [(.ref b1)])) rfl (by rw [hml]; rfl) (argsL := [(.ref b1)]) (rest := []) (lenOf zq_pd9 rfl) rfl (by show 2 * 0 + _ ≤ _; exact Nat.le_of_eq rfl) (hb hby zq_d9_107)
    have A_ca := A_ca.keep K10 (ninS ne_ca_b1 nin0)
    have ZS := Nat.le_trans ZS K10.1
    obtain ⟨t10, ht10⟩ : ∃ z : zq_V, z = zq_rd2 (t9.1, t9.2.1, t9.2.2.1, t9.2.2.2) := ⟨_, rfl⟩
    have A_b1 : zq_A Z T10.heap b1 .long 4 (fun k => .long (([t10.1, t10.2.1, t10.2.2.1, t10.2.2.2] : List Int64).getD k 0)) := by rw [ht10]; exact Aq10
    obtain ⟨L10, X10, NF⟩ : ∃ L : List Loc, Stand p l e ({ frames := 3, cells := 1, slots := 4, locals := 42 } : Room) s m #[(.long k0), (.long k1), (.ref ca), (.int n)] below meth c T10 L 1 4 ∧ Fr n0 L := ⟨_, X10, Fr.app NF Nq10⟩
    refine zq_go st10 ?_
    show zq_Go p e below s _ _ _ (T10.setTop (mkF m 110 #[.val (.long k0), .second, .val (.long k1), .second, .val (.ref ca), .val (.int n), .val (.ref b1), .val (.int bs), .val (.long ((zq_wd cc n bs) ||| ((((2 : Int32) * n).toInt64) <<< ((56 : Int32) &&& 0x3f).toInt64))), .second, .unset, .unset] []))
    refine zq_go (fun _ kq => XS.aload X10.here hx rfl (hb hby zq_d9_110) rfl rfl kq) ?_
    show zq_Go p e below s _ _ _ (T10.setTop (mkF m 112 #[.val (.long k0), .second, .val (.long k1), .second, .val (.ref ca), .val (.int n), .val (.ref b1), .val (.int bs), .val (.long ((zq_wd cc n bs) ||| ((((2 : Int32) * n).toInt64) <<< ((56 : Int32) &&& 0x3f).toInt64))), .second, .unset, .unset] [(.ref b1)]))
    obtain ⟨_, T11, L11, X11, ⟨rfl, Nq11, K11, Aq11⟩, st11⟩ := zq_callS (W := 0) X10 hx hZ hown (hw _ (List.mem_of_getElem? (i := 75) rfl)) (hw _ (List.mem_of_getElem? (i := 76) rfl)) (hw _ (List.mem_of_getElem? (i := 59) rfl)) (hw _ (List.mem_of_getElem? (i := 77) rfl)) (by decide) (zq_rmR l Z a0 hw [] b1 T10.heap n0 (t10.1, t10.2.1, t10.2.2.1, t10.2.2.2) A_b1 g_b1) rfl (by decide) (by decide) (by decide) (by decide) (g := (mkF m 112 #[.val (.long k0), .second, .val (.long k1), .second, .val (.ref ca), .val (.int n), .val (.ref b1), .val (.int bs), .val (.long ((zq_wd cc n bs) ||| ((((2 : Int32) * n).toInt64) <<< ((56 : Int32) &&& 0x3f).toInt64))), .second, .unset, .unset] [(.ref b1)])) rfl (by rw [hml]; rfl) (argsL := [(.ref b1)]) (rest := []) (lenOf zq_pd9 rfl) rfl (by show 2 * 0 + _ ≤ _; exact Nat.le_of_eq rfl) (hb hby zq_d9_112)
    have A_ca := A_ca.keep K11 (ninS ne_ca_b1 nin0)
    have ZS := Nat.le_trans ZS K11.1
    obtain ⟨t11, ht11⟩ : ∃ z : zq_V, z = zq_rd2 (t10.1, t10.2.1, t10.2.2.1, t10.2.2.2) := ⟨_, rfl⟩
    have A_b1 : zq_A Z T11.heap b1 .long 4 (fun k => .long (([t11.1, t11.2.1, t11.2.2.1, t11.2.2.2] : List Int64).getD k 0)) := by rw [ht11]; exact Aq11
    obtain ⟨L11, X11, NF⟩ : ∃ L : List Loc, Stand p l e ({ frames := 3, cells := 1, slots := 4, locals := 42 } : Room) s m #[(.long k0), (.long k1), (.ref ca), (.int n)] below meth c T11 L 1 4 ∧ Fr n0 L := ⟨_, X11, Fr.app NF Nq11⟩
    refine zq_go st11 ?_
    show zq_Go p e below s _ _ _ (T11.setTop (mkF m 115 #[.val (.long k0), .second, .val (.long k1), .second, .val (.ref ca), .val (.int n), .val (.ref b1), .val (.int bs), .val (.long ((zq_wd cc n bs) ||| ((((2 : Int32) * n).toInt64) <<< ((56 : Int32) &&& 0x3f).toInt64))), .second, .unset, .unset] []))
    refine zq_go (fun _ kq => XS.aload X11.here hx rfl (hb hby zq_d9_115) rfl rfl kq) ?_
    show zq_Go p e below s _ _ _ (T11.setTop (mkF m 117 #[.val (.long k0), .second, .val (.long k1), .second, .val (.ref ca), .val (.int n), .val (.ref b1), .val (.int bs), .val (.long ((zq_wd cc n bs) ||| ((((2 : Int32) * n).toInt64) <<< ((56 : Int32) &&& 0x3f).toInt64))), .second, .unset, .unset] [(.ref b1)]))
    obtain ⟨_, T12, L12, X12, ⟨rfl, Nq12, K12, Aq12⟩, st12⟩ := zq_callS (W := 0) X11 hx hZ hown (hw _ (List.mem_of_getElem? (i := 75) rfl)) (hw _ (List.mem_of_getElem? (i := 76) rfl)) (hw _ (List.mem_of_getElem? (i := 59) rfl)) (hw _ (List.mem_of_getElem? (i := 77) rfl)) (by decide) (zq_rmR l Z a0 hw [] b1 T11.heap n0 (t11.1, t11.2.1, t11.2.2.1, t11.2.2.2) A_b1 g_b1) rfl (by decide) (by decide) (by decide) (by decide) (g := (mkF m 117 #[.val (.long k0), .second, .val (.long k1), .second, .val (.ref ca), .val (.int n), .val (.ref b1), .val (.int bs), .val (.long ((zq_wd cc n bs) ||| ((((2 : Int32) * n).toInt64) <<< ((56 : Int32) &&& 0x3f).toInt64))), .second, .unset, .unset] [(.ref b1)])) rfl (by rw [hml]; rfl) (argsL := [(.ref b1)]) (rest := []) (lenOf zq_pd9 rfl) rfl (by show 2 * 0 + _ ≤ _; exact Nat.le_of_eq rfl) (hb hby zq_d9_117)
    have A_ca := A_ca.keep K12 (ninS ne_ca_b1 nin0)
    have ZS := Nat.le_trans ZS K12.1
    obtain ⟨t12, ht12⟩ : ∃ z : zq_V, z = zq_rd2 (t11.1, t11.2.1, t11.2.2.1, t11.2.2.2) := ⟨_, rfl⟩
    have A_b1 : zq_A Z T12.heap b1 .long 4 (fun k => .long (([t12.1, t12.2.1, t12.2.2.1, t12.2.2.2] : List Int64).getD k 0)) := by rw [ht12]; exact Aq12
    obtain ⟨L12, X12, NF⟩ : ∃ L : List Loc, Stand p l e ({ frames := 3, cells := 1, slots := 4, locals := 42 } : Room) s m #[(.long k0), (.long k1), (.ref ca), (.int n)] below meth c T12 L 1 4 ∧ Fr n0 L := ⟨_, X12, Fr.app NF Nq12⟩
    refine zq_go st12 ?_
    show zq_Go p e below s _ _ _ (T12.setTop (mkF m 120 #[.val (.long k0), .second, .val (.long k1), .second, .val (.ref ca), .val (.int n), .val (.ref b1), .val (.int bs), .val (.long ((zq_wd cc n bs) ||| ((((2 : Int32) * n).toInt64) <<< ((56 : Int32) &&& 0x3f).toInt64))), .second, .unset, .unset] []))
    refine zq_go (fun _ kq => XS.aload X12.here hx rfl (hb hby zq_d9_120) rfl rfl kq) ?_
    show zq_Go p e below s _ _ _ (T12.setTop (mkF m 122 #[.val (.long k0), .second, .val (.long k1), .second, .val (.ref ca), .val (.int n), .val (.ref b1), .val (.int bs), .val (.long ((zq_wd cc n bs) ||| ((((2 : Int32) * n).toInt64) <<< ((56 : Int32) &&& 0x3f).toInt64))), .second, .unset, .unset] [(.ref b1)]))
    refine zq_go (fun _ kq => XS.iconst X12.here hx rfl (hb hby zq_d9_122) kq) ?_
    show zq_Go p e below s _ _ _ (T12.setTop (mkF m 123 #[.val (.long k0), .second, .val (.long k1), .second, .val (.ref ca), .val (.int n), .val (.ref b1), .val (.int bs), .val (.long ((zq_wd cc n bs) ||| ((((2 : Int32) * n).toInt64) <<< ((56 : Int32) &&& 0x3f).toInt64))), .second, .unset, .unset] [(.int (0 : Int32)), (.ref b1)]))
    refine zq_go (zq_ldJ X12 hx hZ rfl A_b1 (j := (0 : Int32)) (i := 0) (by decide) (by decide) (by decide) (g := (mkF m 123 #[.val (.long k0), .second, .val (.long k1), .second, .val (.ref ca), .val (.int n), .val (.ref b1), .val (.int bs), .val (.long ((zq_wd cc n bs) ||| ((((2 : Int32) * n).toInt64) <<< ((56 : Int32) &&& 0x3f).toInt64))), .second, .unset, .unset] [(.int (0 : Int32)), (.ref b1)])) rfl rfl (hb hby zq_d9_123)) ?_
    show zq_Go p e below s _ _ _ (T12.setTop (mkF m 124 #[.val (.long k0), .second, .val (.long k1), .second, .val (.ref ca), .val (.int n), .val (.ref b1), .val (.int bs), .val (.long ((zq_wd cc n bs) ||| ((((2 : Int32) * n).toInt64) <<< ((56 : Int32) &&& 0x3f).toInt64))), .second, .unset, .unset] [(.long t12.1)]))
    refine zq_go (fun _ kq => XS.aload X12.here hx rfl (hb hby zq_d9_124) rfl rfl kq) ?_
    show zq_Go p e below s _ _ _ (T12.setTop (mkF m 126 #[.val (.long k0), .second, .val (.long k1), .second, .val (.ref ca), .val (.int n), .val (.ref b1), .val (.int bs), .val (.long ((zq_wd cc n bs) ||| ((((2 : Int32) * n).toInt64) <<< ((56 : Int32) &&& 0x3f).toInt64))), .second, .unset, .unset] [(.ref b1), (.long t12.1)]))
    refine zq_go (fun _ kq => XS.iconst X12.here hx rfl (hb hby zq_d9_126) kq) ?_
    show zq_Go p e below s _ _ _ (T12.setTop (mkF m 127 #[.val (.long k0), .second, .val (.long k1), .second, .val (.ref ca), .val (.int n), .val (.ref b1), .val (.int bs), .val (.long ((zq_wd cc n bs) ||| ((((2 : Int32) * n).toInt64) <<< ((56 : Int32) &&& 0x3f).toInt64))), .second, .unset, .unset] [(.int (1 : Int32)), (.ref b1), (.long t12.1)]))
    refine zq_go (zq_ldJ X12 hx hZ rfl A_b1 (j := (1 : Int32)) (i := 1) (by decide) (by decide) (by decide) (g := (mkF m 127 #[.val (.long k0), .second, .val (.long k1), .second, .val (.ref ca), .val (.int n), .val (.ref b1), .val (.int bs), .val (.long ((zq_wd cc n bs) ||| ((((2 : Int32) * n).toInt64) <<< ((56 : Int32) &&& 0x3f).toInt64))), .second, .unset, .unset] [(.int (1 : Int32)), (.ref b1), (.long t12.1)])) rfl rfl (hb hby zq_d9_127)) ?_
    show zq_Go p e below s _ _ _ (T12.setTop (mkF m 128 #[.val (.long k0), .second, .val (.long k1), .second, .val (.ref ca), .val (.int n), .val (.ref b1), .val (.int bs), .val (.long ((zq_wd cc n bs) ||| ((((2 : Int32) * n).toInt64) <<< ((56 : Int32) &&& 0x3f).toInt64))), .second, .unset, .unset] [(.long t12.2.1), (.long t12.1)]))
    refine zq_go (fun _ kq => XS.lxor X12.here hx rfl (hb hby zq_d9_128) rfl kq) ?_
    show zq_Go p e below s _ _ _ (T12.setTop (mkF m 129 #[.val (.long k0), .second, .val (.long k1), .second, .val (.ref ca), .val (.int n), .val (.ref b1), .val (.int bs), .val (.long ((zq_wd cc n bs) ||| ((((2 : Int32) * n).toInt64) <<< ((56 : Int32) &&& 0x3f).toInt64))), .second, .unset, .unset] [(.long (t12.1 ^^^ t12.2.1))]))
    refine zq_go (fun _ kq => XS.aload X12.here hx rfl (hb hby zq_d9_129) rfl rfl kq) ?_
    show zq_Go p e below s _ _ _ (T12.setTop (mkF m 131 #[.val (.long k0), .second, .val (.long k1), .second, .val (.ref ca), .val (.int n), .val (.ref b1), .val (.int bs), .val (.long ((zq_wd cc n bs) ||| ((((2 : Int32) * n).toInt64) <<< ((56 : Int32) &&& 0x3f).toInt64))), .second, .unset, .unset] [(.ref b1), (.long (t12.1 ^^^ t12.2.1))]))
    refine zq_go (fun _ kq => XS.iconst X12.here hx rfl (hb hby zq_d9_131) kq) ?_
    show zq_Go p e below s _ _ _ (T12.setTop (mkF m 132 #[.val (.long k0), .second, .val (.long k1), .second, .val (.ref ca), .val (.int n), .val (.ref b1), .val (.int bs), .val (.long ((zq_wd cc n bs) ||| ((((2 : Int32) * n).toInt64) <<< ((56 : Int32) &&& 0x3f).toInt64))), .second, .unset, .unset] [(.int (2 : Int32)), (.ref b1), (.long (t12.1 ^^^ t12.2.1))]))
    refine zq_go (zq_ldJ X12 hx hZ rfl A_b1 (j := (2 : Int32)) (i := 2) (by decide) (by decide) (by decide) (g := (mkF m 132 #[.val (.long k0), .second, .val (.long k1), .second, .val (.ref ca), .val (.int n), .val (.ref b1), .val (.int bs), .val (.long ((zq_wd cc n bs) ||| ((((2 : Int32) * n).toInt64) <<< ((56 : Int32) &&& 0x3f).toInt64))), .second, .unset, .unset] [(.int (2 : Int32)), (.ref b1), (.long (t12.1 ^^^ t12.2.1))])) rfl rfl (hb hby zq_d9_132)) ?_
    show zq_Go p e below s _ _ _ (T12.setTop (mkF m 133 #[.val (.long k0), .second, .val (.long k1), .second, .val (.ref ca), .val (.int n), .val (.ref b1), .val (.int bs), .val (.long ((zq_wd cc n bs) ||| ((((2 : Int32) * n).toInt64) <<< ((56 : Int32) &&& 0x3f).toInt64))), .second, .unset, .unset] [(.long t12.2.2.1), (.long (t12.1 ^^^ t12.2.1))]))
    refine zq_go (fun _ kq => XS.lxor X12.here hx rfl (hb hby zq_d9_133) rfl kq) ?_
    show zq_Go p e below s _ _ _ (T12.setTop (mkF m 134 #[.val (.long k0), .second, .val (.long k1), .second, .val (.ref ca), .val (.int n), .val (.ref b1), .val (.int bs), .val (.long ((zq_wd cc n bs) ||| ((((2 : Int32) * n).toInt64) <<< ((56 : Int32) &&& 0x3f).toInt64))), .second, .unset, .unset] [(.long ((t12.1 ^^^ t12.2.1) ^^^ t12.2.2.1))]))
    refine zq_go (fun _ kq => XS.aload X12.here hx rfl (hb hby zq_d9_134) rfl rfl kq) ?_
    show zq_Go p e below s _ _ _ (T12.setTop (mkF m 136 #[.val (.long k0), .second, .val (.long k1), .second, .val (.ref ca), .val (.int n), .val (.ref b1), .val (.int bs), .val (.long ((zq_wd cc n bs) ||| ((((2 : Int32) * n).toInt64) <<< ((56 : Int32) &&& 0x3f).toInt64))), .second, .unset, .unset] [(.ref b1), (.long ((t12.1 ^^^ t12.2.1) ^^^ t12.2.2.1))]))
    refine zq_go (fun _ kq => XS.iconst X12.here hx rfl (hb hby zq_d9_136) kq) ?_
    show zq_Go p e below s _ _ _ (T12.setTop (mkF m 137 #[.val (.long k0), .second, .val (.long k1), .second, .val (.ref ca), .val (.int n), .val (.ref b1), .val (.int bs), .val (.long ((zq_wd cc n bs) ||| ((((2 : Int32) * n).toInt64) <<< ((56 : Int32) &&& 0x3f).toInt64))), .second, .unset, .unset] [(.int (3 : Int32)), (.ref b1), (.long ((t12.1 ^^^ t12.2.1) ^^^ t12.2.2.1))]))
    refine zq_go (zq_ldJ X12 hx hZ rfl A_b1 (j := (3 : Int32)) (i := 3) (by decide) (by decide) (by decide) (g := (mkF m 137 #[.val (.long k0), .second, .val (.long k1), .second, .val (.ref ca), .val (.int n), .val (.ref b1), .val (.int bs), .val (.long ((zq_wd cc n bs) ||| ((((2 : Int32) * n).toInt64) <<< ((56 : Int32) &&& 0x3f).toInt64))), .second, .unset, .unset] [(.int (3 : Int32)), (.ref b1), (.long ((t12.1 ^^^ t12.2.1) ^^^ t12.2.2.1))])) rfl rfl (hb hby zq_d9_137)) ?_
    show zq_Go p e below s _ _ _ (T12.setTop (mkF m 138 #[.val (.long k0), .second, .val (.long k1), .second, .val (.ref ca), .val (.int n), .val (.ref b1), .val (.int bs), .val (.long ((zq_wd cc n bs) ||| ((((2 : Int32) * n).toInt64) <<< ((56 : Int32) &&& 0x3f).toInt64))), .second, .unset, .unset] [(.long t12.2.2.2), (.long ((t12.1 ^^^ t12.2.1) ^^^ t12.2.2.1))]))
    refine zq_go (fun _ kq => XS.lxor X12.here hx rfl (hb hby zq_d9_138) rfl kq) ?_
    show zq_Go p e below s _ _ _ (T12.setTop (mkF m 139 #[.val (.long k0), .second, .val (.long k1), .second, .val (.ref ca), .val (.int n), .val (.ref b1), .val (.int bs), .val (.long ((zq_wd cc n bs) ||| ((((2 : Int32) * n).toInt64) <<< ((56 : Int32) &&& 0x3f).toInt64))), .second, .unset, .unset] [(.long (((t12.1 ^^^ t12.2.1) ^^^ t12.2.2.1) ^^^ t12.2.2.2))]))
    refine zq_go (fun _ kq => XS.lstore X12.here hx rfl (hb hby zq_d9_139) rfl (l' := #[.val (.long k0), .second, .val (.long k1), .second, .val (.ref ca), .val (.int n), .val (.ref b1), .val (.int bs), .val (.long ((zq_wd cc n bs) ||| ((((2 : Int32) * n).toInt64) <<< ((56 : Int32) &&& 0x3f).toInt64))), .second, .val (.long (((t12.1 ^^^ t12.2.1) ^^^ t12.2.2.1) ^^^ t12.2.2.2)), .second]) rfl kq) ?_
    show zq_Go p e below s _ _ _ (T12.setTop (mkF m 141 #[.val (.long k0), .second, .val (.long k1), .second, .val (.ref ca), .val (.int n), .val (.ref b1), .val (.int bs), .val (.long ((zq_wd cc n bs) ||| ((((2 : Int32) * n).toInt64) <<< ((56 : Int32) &&& 0x3f).toInt64))), .second, .val (.long (((t12.1 ^^^ t12.2.1) ^^^ t12.2.2.1) ^^^ t12.2.2.2)), .second] []))
    refine zq_go (fun _ kq => XS.lload X12.here hx rfl (hb hby zq_d9_141) rfl kq) ?_
    show zq_Go p e below s _ _ _ (T12.setTop (mkF m 143 #[.val (.long k0), .second, .val (.long k1), .second, .val (.ref ca), .val (.int n), .val (.ref b1), .val (.int bs), .val (.long ((zq_wd cc n bs) ||| ((((2 : Int32) * n).toInt64) <<< ((56 : Int32) &&& 0x3f).toInt64))), .second, .val (.long (((t12.1 ^^^ t12.2.1) ^^^ t12.2.2.1) ^^^ t12.2.2.2)), .second] [(.long (((t12.1 ^^^ t12.2.1) ^^^ t12.2.2.1) ^^^ t12.2.2.2))]))
    refine zq_go (fun _ kq => XS.lload X12.here hx rfl (hb hby zq_d9_143) rfl kq) ?_
    show zq_Go p e below s _ _ _ (T12.setTop (mkF m 145 #[.val (.long k0), .second, .val (.long k1), .second, .val (.ref ca), .val (.int n), .val (.ref b1), .val (.int bs), .val (.long ((zq_wd cc n bs) ||| ((((2 : Int32) * n).toInt64) <<< ((56 : Int32) &&& 0x3f).toInt64))), .second, .val (.long (((t12.1 ^^^ t12.2.1) ^^^ t12.2.2.1) ^^^ t12.2.2.2)), .second] [(.long (((t12.1 ^^^ t12.2.1) ^^^ t12.2.2.1) ^^^ t12.2.2.2)), (.long (((t12.1 ^^^ t12.2.1) ^^^ t12.2.2.1) ^^^ t12.2.2.2))]))
    refine zq_go (fun _ kq => XS.bipush X12.here hx rfl (hb hby zq_d9_145) kq) ?_
    show zq_Go p e below s _ _ _ (T12.setTop (mkF m 147 #[.val (.long k0), .second, .val (.long k1), .second, .val (.ref ca), .val (.int n), .val (.ref b1), .val (.int bs), .val (.long ((zq_wd cc n bs) ||| ((((2 : Int32) * n).toInt64) <<< ((56 : Int32) &&& 0x3f).toInt64))), .second, .val (.long (((t12.1 ^^^ t12.2.1) ^^^ t12.2.2.1) ^^^ t12.2.2.2)), .second] [(.int (32 : Int32)), (.long (((t12.1 ^^^ t12.2.1) ^^^ t12.2.2.1) ^^^ t12.2.2.2)), (.long (((t12.1 ^^^ t12.2.1) ^^^ t12.2.2.1) ^^^ t12.2.2.2))]))
    refine zq_go (fun _ kq => XS.lushr X12.here hx rfl (hb hby zq_d9_147) rfl kq) ?_
    show zq_Go p e below s _ _ _ (T12.setTop (mkF m 148 #[.val (.long k0), .second, .val (.long k1), .second, .val (.ref ca), .val (.int n), .val (.ref b1), .val (.int bs), .val (.long ((zq_wd cc n bs) ||| ((((2 : Int32) * n).toInt64) <<< ((56 : Int32) &&& 0x3f).toInt64))), .second, .val (.long (((t12.1 ^^^ t12.2.1) ^^^ t12.2.2.1) ^^^ t12.2.2.2)), .second] [(.long (((((t12.1 ^^^ t12.2.1) ^^^ t12.2.2.1) ^^^ t12.2.2.2).toUInt64 >>> ((32 : Int32) &&& 0x3f).toInt64.toUInt64).toInt64)), (.long (((t12.1 ^^^ t12.2.1) ^^^ t12.2.2.1) ^^^ t12.2.2.2))]))
    refine zq_go (fun _ kq => XS.lxor X12.here hx rfl (hb hby zq_d9_148) rfl kq) ?_
    show zq_Go p e below s _ _ _ (T12.setTop (mkF m 149 #[.val (.long k0), .second, .val (.long k1), .second, .val (.ref ca), .val (.int n), .val (.ref b1), .val (.int bs), .val (.long ((zq_wd cc n bs) ||| ((((2 : Int32) * n).toInt64) <<< ((56 : Int32) &&& 0x3f).toInt64))), .second, .val (.long (((t12.1 ^^^ t12.2.1) ^^^ t12.2.2.1) ^^^ t12.2.2.2)), .second] [(.long ((((t12.1 ^^^ t12.2.1) ^^^ t12.2.2.1) ^^^ t12.2.2.2) ^^^ (((((t12.1 ^^^ t12.2.1) ^^^ t12.2.2.1) ^^^ t12.2.2.2).toUInt64 >>> ((32 : Int32) &&& 0x3f).toInt64.toUInt64).toInt64)))]))
    refine zq_go (fun _ kq => XS.l2i X12.here hx rfl (hb hby zq_d9_149) rfl kq) ?_
    show zq_Go p e below s _ _ _ (T12.setTop (mkF m 150 #[.val (.long k0), .second, .val (.long k1), .second, .val (.ref ca), .val (.int n), .val (.ref b1), .val (.int bs), .val (.long ((zq_wd cc n bs) ||| ((((2 : Int32) * n).toInt64) <<< ((56 : Int32) &&& 0x3f).toInt64))), .second, .val (.long (((t12.1 ^^^ t12.2.1) ^^^ t12.2.2.1) ^^^ t12.2.2.2)), .second] [(.int (((((t12.1 ^^^ t12.2.1) ^^^ t12.2.2.1) ^^^ t12.2.2.2) ^^^ (((((t12.1 ^^^ t12.2.1) ^^^ t12.2.2.1) ^^^ t12.2.2.2).toUInt64 >>> ((32 : Int32) &&& 0x3f).toInt64.toUInt64).toInt64)).toInt32))]))
    exact zq_retI X12 hx hlk hret (hb hby zq_d9_150) ⟨by unfold zq_ref; rw [← hv, ← hbs]; subst ht12; subst ht11; subst ht10; subst ht9; subst ht7; rfl, NF⟩ (by decide) (by decide)
  show zq_Go p e below s _ _ _ (T5.setTop (mkF m 43 #[.val (.long k0), .second, .val (.long k1), .second, .val (.ref ca), .val (.int n), .val (.ref b1), .val (.int (0 : Int32)), .unset, .unset, .unset, .unset] [(.int (4 : Int32)), (.int n)]))
  by_cases hc43 : n < (4 : Int32)
  ·
    refine zq_go (fun _ kq => XS.icmpYes X5.here hx rfl (pc0 := 43) (pc' := 63) rfl (hb hby zq_d9_43) rfl (tlt hc43).1 (by decide) (by decide) kq) ?_
    show zq_Go p e below s _ _ _ (T5.setTop (mkF m 63 #[.val (.long k0), .second, .val (.long k1), .second, .val (.ref ca), .val (.int n), .val (.ref b1), .val (.int (0 : Int32)), .unset, .unset, .unset, .unset] []))
    exact J63 ((k0 ^^^ (8317987319222330741 : Int64)), (k1 ^^^ (7237128888997146477 : Int64)), (k0 ^^^ (7816392313619706465 : Int64)), (k1 ^^^ (8387220255154660723 : Int64))) _ 0 _ _ _ X5 e5 NF ZS A_b1 A_ca (by unfold zq_rv; rw [if_pos hc43]; rfl) (by unfold zq_bs; rw [if_pos hc43]) rfl (by decide)
  refine zq_go (fun _ kq => XS.icmpNo X5.here hx rfl (hb hby zq_d9_43) rfl (flt hc43).1 kq) ?_
  show zq_Go p e below s _ _ _ (T5.setTop (mkF m 46 #[.val (.long k0), .second, .val (.long k1), .second, .val (.ref ca), .val (.int n), .val (.ref b1), .val (.int (0 : Int32)), .unset, .unset, .unset, .unset] []))
  refine zq_go (fun _ kq => XS.aload X5.here hx rfl (hb hby zq_d9_46) rfl rfl kq) ?_
  show zq_Go p e below s _ _ _ (T5.setTop (mkF m 48 #[.val (.long k0), .second, .val (.long k1), .second, .val (.ref ca), .val (.int n), .val (.ref b1), .val (.int (0 : Int32)), .unset, .unset, .unset, .unset] [(.ref b1)]))
  refine zq_go (fun _ kq => XS.aload X5.here hx rfl (hb hby zq_d9_48) rfl rfl kq) ?_
  show zq_Go p e below s _ _ _ (T5.setTop (mkF m 50 #[.val (.long k0), .second, .val (.long k1), .second, .val (.ref ca), .val (.int n), .val (.ref b1), .val (.int (0 : Int32)), .unset, .unset, .unset, .unset] [(.ref ca), (.ref b1)]))
  refine zq_go (fun _ kq => XS.iload X5.here hx rfl (hb hby zq_d9_50) rfl kq) ?_
  show zq_Go p e below s _ _ _ (T5.setTop (mkF m 52 #[.val (.long k0), .second, .val (.long k1), .second, .val (.ref ca), .val (.int n), .val (.ref b1), .val (.int (0 : Int32)), .unset, .unset, .unset, .unset] [(.int n), (.ref ca), (.ref b1)]))
  refine zq_go (fun _ kq => XS.iconst X5.here hx rfl (hb hby zq_d9_52) kq) ?_
  show zq_Go p e below s _ _ _ (T5.setTop (mkF m 53 #[.val (.long k0), .second, .val (.long k1), .second, .val (.ref ca), .val (.int n), .val (.ref b1), .val (.int (0 : Int32)), .unset, .unset, .unset, .unset] [(.int (0 : Int32)), (.int n), (.ref ca), (.ref b1)]))
  obtain ⟨T13, X13, e13, st13⟩ := zq_callP (W := 1) X5 hx hZ hown (hw _ (List.mem_of_getElem? (i := 66) rfl)) (hw _ (List.mem_of_getElem? (i := 67) rfl)) (hw _ (List.mem_of_getElem? (i := 59) rfl)) (hw _ (List.mem_of_getElem? (i := 68) rfl)) (by decide) (zq_rmW l Z a0 hw [] ca n (0 : Int32) h5 cc N 0 A_ca hn rfl hN (by decide)) e5 (by decide) (by decide) rfl rfl (by decide) (by decide) (g := (mkF m 53 #[.val (.long k0), .second, .val (.long k1), .second, .val (.ref ca), .val (.int n), .val (.ref b1), .val (.int (0 : Int32)), .unset, .unset, .unset, .unset] [(.int (0 : Int32)), (.int n), (.ref ca), (.ref b1)])) rfl (by rw [hml]; rfl) (argsL := [(.ref ca), (.int n), (.int (0 : Int32))]) (rest := [(.ref b1)]) (lenOf zq_pd10 rfl) rfl (by show 2 * 0 + _ ≤ _; exact Nat.le_of_eq rfl) (hb hby zq_d9_53)
  refine zq_go st13 ?_
  show zq_Go p e below s _ _ _ (T13.setTop (mkF m 56 #[.val (.long k0), .second, .val (.long k1), .second, .val (.ref ca), .val (.int n), .val (.ref b1), .val (.int (0 : Int32)), .unset, .unset, .unset, .unset] [(.long (zq_wd cc n (0 : Int32))), (.ref b1)]))
  obtain ⟨_, T14, L14, X14, ⟨rfl, Nq14, K14, Aq14⟩, st14⟩ := zq_callS (W := 0) X13 hx hZ hown (hw _ (List.mem_of_getElem? (i := 72) rfl)) (hw _ (List.mem_of_getElem? (i := 73) rfl)) (hw _ (List.mem_of_getElem? (i := 59) rfl)) (hw _ (List.mem_of_getElem? (i := 74) rfl)) (by decide) (zq_rmC l Z a0 hw [] b1 (zq_wd cc n (0 : Int32)) h5 n0 ((k0 ^^^ (8317987319222330741 : Int64)), (k1 ^^^ (7237128888997146477 : Int64)), (k0 ^^^ (7816392313619706465 : Int64)), (k1 ^^^ (8387220255154660723 : Int64))) A_b1 g_b1) e13 (by decide) (by decide) (by decide) (by decide) (g := (mkF m 56 #[.val (.long k0), .second, .val (.long k1), .second, .val (.ref ca), .val (.int n), .val (.ref b1), .val (.int (0 : Int32)), .unset, .unset, .unset, .unset] [(.long (zq_wd cc n (0 : Int32))), (.ref b1)])) rfl (by rw [hml]; rfl) (argsL := [(.ref b1), (.long (zq_wd cc n (0 : Int32)))]) (rest := []) (lenOf zq_pd11 rfl) rfl (by show 2 * 0 + _ ≤ _; exact Nat.le_of_eq rfl) (hb hby zq_d9_56)
  have A_ca := A_ca.keep K14 (ninS ne_ca_b1 nin0)
  have ZS := Nat.le_trans ZS K14.1
  obtain ⟨t14, ht14⟩ : ∃ z : zq_V, z = zq_tk zq_rd2 ((k0 ^^^ (8317987319222330741 : Int64)), (k1 ^^^ (7237128888997146477 : Int64)), (k0 ^^^ (7816392313619706465 : Int64)), (k1 ^^^ (8387220255154660723 : Int64))) (zq_wd cc n (0 : Int32)) := ⟨_, rfl⟩
  have A_b1 : zq_A Z T14.heap b1 .long 4 (fun k => .long (([t14.1, t14.2.1, t14.2.2.1, t14.2.2.2] : List Int64).getD k 0)) := by rw [ht14]; exact Aq14
  obtain ⟨L14, X14, NF⟩ : ∃ L : List Loc, Stand p l e ({ frames := 3, cells := 1, slots := 4, locals := 42 } : Room) s m #[(.long k0), (.long k1), (.ref ca), (.int n)] below meth c T14 L 1 4 ∧ Fr n0 L := ⟨_, X14, Fr.app NF Nq14⟩
  refine zq_go st14 ?_
  show zq_Go p e below s _ _ _ (T14.setTop (mkF m 59 #[.val (.long k0), .second, .val (.long k1), .second, .val (.ref ca), .val (.int n), .val (.ref b1), .val (.int (0 : Int32)), .unset, .unset, .unset, .unset] []))
  refine zq_go (fun _ kq => XS.bipush X14.here hx rfl (hb hby zq_d9_59) kq) ?_
  show zq_Go p e below s _ _ _ (T14.setTop (mkF m 61 #[.val (.long k0), .second, .val (.long k1), .second, .val (.ref ca), .val (.int n), .val (.ref b1), .val (.int (0 : Int32)), .unset, .unset, .unset, .unset] [(.int (8 : Int32))]))
  refine zq_go (fun _ kq => XS.istore X14.here hx rfl (hb hby zq_d9_61) rfl (l' := #[.val (.long k0), .second, .val (.long k1), .second, .val (.ref ca), .val (.int n), .val (.ref b1), .val (.int (8 : Int32)), .unset, .unset, .unset, .unset]) rfl kq) ?_
  show zq_Go p e below s _ _ _ (T14.setTop (mkF m 63 #[.val (.long k0), .second, .val (.long k1), .second, .val (.ref ca), .val (.int n), .val (.ref b1), .val (.int (8 : Int32)), .unset, .unset, .unset, .unset] []))
  exact J63 (t14.1, t14.2.1, t14.2.2.1, t14.2.2.2) _ 1 _ _ _ X14 rfl NF ZS A_b1 A_ca (by unfold zq_rv; rw [if_neg hc43]; subst ht14; rfl) (by unfold zq_bs; rw [if_neg hc43]) rfl (by decide)
theorem zq_pd12 : parseMethodDescriptor "([CII)I" = some ⟨[(.array .char), .int, .int], some .int⟩ := by decide +kernel
theorem zq_pd13 : parseMethodDescriptor "(JJ[CI)I" = some ⟨[.long, .long, (.array .char), .int], some .int⟩ := by decide +kernel
theorem zq_ef0 (m : MethodId) (x0 : Int64) (x1 : Int64) (x2 : Int64) (x3 : Int64) (x4 : Int32) : entryFrame m #[(.long x0), (.long x1), (.long x2), (.long x3), (.int x4)] maxLocals = mkF m 0 #[.val (.long x0), .second, .val (.long x1), .second, .val (.long x2), .second, .val (.long x3), .second, .val (.int x4), .unset, .unset, .unset, .unset, .unset, .unset] [] := by first | (simp [entryFrame, mkF, argsToLocals, Value.category, maxLocals]; done) | rfl
set_option maxRecDepth 65536 in
set_option maxHeartbeats 40000000 in
theorem zq_rm0 (l : Launch) (Z : State) (a0 : Array Value) (hw : ∀ d ∈ tables_1, d.before a0 Z = true) (ws : List Jvm.Cond) (x0 : Int64) (x1 : Int64) (x2 : Int64) (x3 : Int64) (x4 : Int32) (h0 : Heap) :
    zq_Met l Z x code maxLocals ret ws room_1 #[(.long x0), (.long x1), (.long x2), (.long x3), (.int x4)] h0 (zq_one h0.size) := by
  refine zq_body (plainFor_of_name zq_pn1) ?_
  intro p e s m below meth c s₁ hx hZ hby hml hret hlk hown hnm X0 e0
  refine zq_go (fun _ kq => castTop (zq_ef0 m x0 x1 x2 x3 x4) kq) ?_
  have NF := Fr.nil h0.size
  have ZS : h0.size ≤ h0.size := Nat.le_refl _
  show zq_Go p e below s _ _ _ (s₁.setTop (mkF m 0 #[.val (.long x0), .second, .val (.long x1), .second, .val (.long x2), .second, .val (.long x3), .second, .val (.int x4), .unset, .unset, .unset, .unset, .unset, .unset] []))
  refine zq_go (fun _ kq => XS.iload X0.here hx rfl (hb hby at_0) rfl kq) ?_
  show zq_Go p e below s _ _ _ (s₁.setTop (mkF m 2 #[.val (.long x0), .second, .val (.long x1), .second, .val (.long x2), .second, .val (.long x3), .second, .val (.int x4), .unset, .unset, .unset, .unset, .unset, .unset] [(.int x4)]))
  refine zq_go (fun _ kq => XS.bipush X0.here hx rfl (hb hby at_2) kq) ?_
  show zq_Go p e below s _ _ _ (s₁.setTop (mkF m 4 #[.val (.long x0), .second, .val (.long x1), .second, .val (.long x2), .second, .val (.long x3), .second, .val (.int x4), .unset, .unset, .unset, .unset, .unset, .unset] [(.int (7 : Int32)), (.int x4)]))
  refine zq_go (fun _ kq => XS.iand X0.here hx rfl (hb hby at_4) rfl kq) ?_
  show zq_Go p e below s _ _ _ (s₁.setTop (mkF m 5 #[.val (.long x0), .second, .val (.long x1), .second, .val (.long x2), .second, .val (.long x3), .second, .val (.int x4), .unset, .unset, .unset, .unset, .unset, .unset] [(.int (x4 &&& (7 : Int32)))]))
  obtain ⟨N, hN8, hNe⟩ := zq_mask x4 7 3 (by decide) (by decide)
  rw [hNe]
  have hN : N ≤ 7 := by omega
  show zq_Go p e below s _ _ _ (s₁.setTop (mkF m 5 #[.val (.long x0), .second, .val (.long x1), .second, .val (.long x2), .second, .val (.long x3), .second, .val (.int x4), .unset, .unset, .unset, .unset, .unset, .unset] [(.int (Nat.toInt32 N))]))
  refine zq_go (fun _ kq => XS.istore X0.here hx rfl (hb hby at_5) rfl (l' := #[.val (.long x0), .second, .val (.long x1), .second, .val (.long x2), .second, .val (.long x3), .second, .val (.int x4), .val (.int (Nat.toInt32 N)), .unset, .unset, .unset, .unset, .unset]) rfl kq) ?_
  show zq_Go p e below s _ _ _ (s₁.setTop (mkF m 7 #[.val (.long x0), .second, .val (.long x1), .second, .val (.long x2), .second, .val (.long x3), .second, .val (.int x4), .val (.int (Nat.toInt32 N)), .unset, .unset, .unset, .unset, .unset] []))
  refine zq_go (fun _ kq => XS.iload X0.here hx rfl (hb hby at_7) rfl kq) ?_
  show zq_Go p e below s _ _ _ (s₁.setTop (mkF m 9 #[.val (.long x0), .second, .val (.long x1), .second, .val (.long x2), .second, .val (.long x3), .second, .val (.int x4), .val (.int (Nat.toInt32 N)), .unset, .unset, .unset, .unset, .unset] [(.int x4)]))
  refine zq_go (fun _ kq => XS.iconst X0.here hx rfl (hb hby at_9) kq) ?_
  show zq_Go p e below s _ _ _ (s₁.setTop (mkF m 10 #[.val (.long x0), .second, .val (.long x1), .second, .val (.long x2), .second, .val (.long x3), .second, .val (.int x4), .val (.int (Nat.toInt32 N)), .unset, .unset, .unset, .unset, .unset] [(.int (3 : Int32)), (.int x4)]))
  refine zq_go (fun _ kq => XS.iushr X0.here hx rfl (hb hby at_10) rfl kq) ?_
  show zq_Go p e below s _ _ _ (s₁.setTop (mkF m 11 #[.val (.long x0), .second, .val (.long x1), .second, .val (.long x2), .second, .val (.long x3), .second, .val (.int x4), .val (.int (Nat.toInt32 N)), .unset, .unset, .unset, .unset, .unset] [(.int ((x4.toUInt32 >>> ((3 : Int32) &&& 31).toUInt32).toInt32))]))
  refine zq_go (fun _ kq => XS.iconst X0.here hx rfl (hb hby at_11) kq) ?_
  show zq_Go p e below s _ _ _ (s₁.setTop (mkF m 12 #[.val (.long x0), .second, .val (.long x1), .second, .val (.long x2), .second, .val (.long x3), .second, .val (.int x4), .val (.int (Nat.toInt32 N)), .unset, .unset, .unset, .unset, .unset] [(.int (3 : Int32)), (.int ((x4.toUInt32 >>> ((3 : Int32) &&& 31).toUInt32).toInt32))]))
  refine zq_go (fun _ kq => XS.iand X0.here hx rfl (hb hby at_12) rfl kq) ?_
  show zq_Go p e below s _ _ _ (s₁.setTop (mkF m 13 #[.val (.long x0), .second, .val (.long x1), .second, .val (.long x2), .second, .val (.long x3), .second, .val (.int x4), .val (.int (Nat.toInt32 N)), .unset, .unset, .unset, .unset, .unset] [(.int (((x4.toUInt32 >>> ((3 : Int32) &&& 31).toUInt32).toInt32) &&& (3 : Int32)))]))
  obtain ⟨f, hf4, hfe⟩ := zq_mask (((x4.toUInt32 >>> ((3 : Int32) &&& 31).toUInt32).toInt32)) 3 2 (by decide) (by decide)
  rw [hfe]
  have hf3 : f ≤ 3 := by omega
  show zq_Go p e below s _ _ _ (s₁.setTop (mkF m 13 #[.val (.long x0), .second, .val (.long x1), .second, .val (.long x2), .second, .val (.long x3), .second, .val (.int x4), .val (.int (Nat.toInt32 N)), .unset, .unset, .unset, .unset, .unset] [(.int (Nat.toInt32 f))]))
  refine zq_go (fun _ kq => XS.istore X0.here hx rfl (hb hby at_13) rfl (l' := #[.val (.long x0), .second, .val (.long x1), .second, .val (.long x2), .second, .val (.long x3), .second, .val (.int x4), .val (.int (Nat.toInt32 N)), .val (.int (Nat.toInt32 f)), .unset, .unset, .unset, .unset]) rfl kq) ?_
  show zq_Go p e below s _ _ _ (s₁.setTop (mkF m 15 #[.val (.long x0), .second, .val (.long x1), .second, .val (.long x2), .second, .val (.long x3), .second, .val (.int x4), .val (.int (Nat.toInt32 N)), .val (.int (Nat.toInt32 f)), .unset, .unset, .unset, .unset] []))
  refine zq_go (fun _ kq => XS.lload X0.here hx rfl (hb hby at_15) rfl kq) ?_
  show zq_Go p e below s _ _ _ (s₁.setTop (mkF m 17 #[.val (.long x0), .second, .val (.long x1), .second, .val (.long x2), .second, .val (.long x3), .second, .val (.int x4), .val (.int (Nat.toInt32 N)), .val (.int (Nat.toInt32 f)), .unset, .unset, .unset, .unset] [(.long x3)]))
  refine zq_go (fun _ kq => XS.bipush X0.here hx rfl (hb hby at_17) kq) ?_
  show zq_Go p e below s _ _ _ (s₁.setTop (mkF m 19 #[.val (.long x0), .second, .val (.long x1), .second, .val (.long x2), .second, .val (.long x3), .second, .val (.int x4), .val (.int (Nat.toInt32 N)), .val (.int (Nat.toInt32 f)), .unset, .unset, .unset, .unset] [(.int (48 : Int32)), (.long x3)]))
  refine zq_go (fun _ kq => XS.lushr X0.here hx rfl (hb hby at_19) rfl kq) ?_
  show zq_Go p e below s _ _ _ (s₁.setTop (mkF m 20 #[.val (.long x0), .second, .val (.long x1), .second, .val (.long x2), .second, .val (.long x3), .second, .val (.int x4), .val (.int (Nat.toInt32 N)), .val (.int (Nat.toInt32 f)), .unset, .unset, .unset, .unset] [(.long ((x3.toUInt64 >>> ((48 : Int32) &&& 0x3f).toInt64.toUInt64).toInt64))]))
  refine zq_go (fun _ kq => XS.l2i X0.here hx rfl (hb hby at_20) rfl kq) ?_
  show zq_Go p e below s _ _ _ (s₁.setTop (mkF m 21 #[.val (.long x0), .second, .val (.long x1), .second, .val (.long x2), .second, .val (.long x3), .second, .val (.int x4), .val (.int (Nat.toInt32 N)), .val (.int (Nat.toInt32 f)), .unset, .unset, .unset, .unset] [(.int (((x3.toUInt64 >>> ((48 : Int32) &&& 0x3f).toInt64.toUInt64).toInt64).toInt32))]))
  refine zq_go (fun _ kq => XS.i2c X0.here hx rfl (hb hby at_21) rfl kq) ?_
  show zq_Go p e below s _ _ _ (s₁.setTop (mkF m 22 #[.val (.long x0), .second, .val (.long x1), .second, .val (.long x2), .second, .val (.long x3), .second, .val (.int x4), .val (.int (Nat.toInt32 N)), .val (.int (Nat.toInt32 f)), .unset, .unset, .unset, .unset] [(.int ((((x3.toUInt64 >>> ((48 : Int32) &&& 0x3f).toInt64.toUInt64).toInt64).toInt32).toUInt32.toUInt16.toUInt32.toInt32))]))
  have hg : zq_chr ((((x3.toUInt64 >>> ((48 : Int32) &&& 0x3f).toInt64.toUInt64).toInt64).toInt32).toUInt32.toUInt16.toUInt32.toInt32) := zq_isc _
  obtain ⟨g, hge⟩ : ∃ z : Int32, z = ((((x3.toUInt64 >>> ((48 : Int32) &&& 0x3f).toInt64.toUInt64).toInt64).toInt32).toUInt32.toUInt16.toUInt32.toInt32) := ⟨_, rfl⟩
  rw [← hge] at hg ⊢
  show zq_Go p e below s _ _ _ (s₁.setTop (mkF m 22 #[.val (.long x0), .second, .val (.long x1), .second, .val (.long x2), .second, .val (.long x3), .second, .val (.int x4), .val (.int (Nat.toInt32 N)), .val (.int (Nat.toInt32 f)), .unset, .unset, .unset, .unset] [(.int g)]))
  refine zq_go (fun _ kq => XS.istore X0.here hx rfl (hb hby at_22) rfl (l' := #[.val (.long x0), .second, .val (.long x1), .second, .val (.long x2), .second, .val (.long x3), .second, .val (.int x4), .val (.int (Nat.toInt32 N)), .val (.int (Nat.toInt32 f)), .val (.int g), .unset, .unset, .unset]) rfl kq) ?_
  show zq_Go p e below s _ _ _ (s₁.setTop (mkF m 24 #[.val (.long x0), .second, .val (.long x1), .second, .val (.long x2), .second, .val (.long x3), .second, .val (.int x4), .val (.int (Nat.toInt32 N)), .val (.int (Nat.toInt32 f)), .val (.int g), .unset, .unset, .unset] []))
  refine zq_go (fun _ kq => XS.bipush X0.here hx rfl (hb hby at_24) kq) ?_
  show zq_Go p e below s _ _ _ (s₁.setTop (mkF m 26 #[.val (.long x0), .second, .val (.long x1), .second, .val (.long x2), .second, .val (.long x3), .second, .val (.int x4), .val (.int (Nat.toInt32 N)), .val (.int (Nat.toInt32 f)), .val (.int g), .unset, .unset, .unset] [(.int (7 : Int32))]))
  obtain ⟨T1, h1, b1, gb1, X1, e1, E1, A_b1, st1⟩ := zq_newA (aty := .char) X0 hx hZ (hw _ (List.mem_of_getElem? (i := 0) rfl)) e0 (g := (mkF m 26 #[.val (.long x0), .second, .val (.long x1), .second, .val (.long x2), .second, .val (.long x3), .second, .val (.int x4), .val (.int (Nat.toInt32 N)), .val (.int (Nat.toInt32 f)), .val (.int g), .unset, .unset, .unset] [(.int (7 : Int32))])) rfl (hb hby at_26) rfl (by decide) (n := 7) (by decide) (cap := 7) (by decide) (by decide) (by decide) (by decide)
  have g_b1 : h0.size ≤ b1 := by rw [gb1]; exact ZS
  have ZS := Nat.le_trans ZS E1.1
  have X1 : Stand p l e room_1 s m #[(.long x0), (.long x1), (.long x2), (.long x3), (.int x4)] below meth c T1 [] 1 7 := X1
  have A_b1 : zq_A Z h1 b1 .char 7 (fun k => .int (([(0 : Int32), (0 : Int32), (0 : Int32), (0 : Int32), (0 : Int32), (0 : Int32), (0 : Int32)] : List Int32).getD k 0)) := A_b1.congr (fun j hj => by match j, hj with | 0, _ => rfl | 1, _ => rfl | 2, _ => rfl | 3, _ => rfl | 4, _ => rfl | 5, _ => rfl | 6, _ => rfl | (j + 7), hj => exact absurd hj (by omega))
  refine zq_go st1 ?_
  show zq_Go p e below s _ _ _ (T1.setTop (mkF m 28 #[.val (.long x0), .second, .val (.long x1), .second, .val (.long x2), .second, .val (.long x3), .second, .val (.int x4), .val (.int (Nat.toInt32 N)), .val (.int (Nat.toInt32 f)), .val (.int g), .unset, .unset, .unset] [(.ref b1)]))
  refine zq_go (fun _ kq => XS.astore X1.here hx rfl (hb hby at_28) rfl rfl (l' := #[.val (.long x0), .second, .val (.long x1), .second, .val (.long x2), .second, .val (.long x3), .second, .val (.int x4), .val (.int (Nat.toInt32 N)), .val (.int (Nat.toInt32 f)), .val (.int g), .val (.ref b1), .unset, .unset]) rfl kq) ?_
  show zq_Go p e below s _ _ _ (T1.setTop (mkF m 30 #[.val (.long x0), .second, .val (.long x1), .second, .val (.long x2), .second, .val (.long x3), .second, .val (.int x4), .val (.int (Nat.toInt32 N)), .val (.int (Nat.toInt32 f)), .val (.int g), .val (.ref b1), .unset, .unset] []))
  refine zq_go (fun _ kq => XS.aload X1.here hx rfl (hb hby at_30) rfl rfl kq) ?_
  show zq_Go p e below s _ _ _ (T1.setTop (mkF m 32 #[.val (.long x0), .second, .val (.long x1), .second, .val (.long x2), .second, .val (.long x3), .second, .val (.int x4), .val (.int (Nat.toInt32 N)), .val (.int (Nat.toInt32 f)), .val (.int g), .val (.ref b1), .unset, .unset] [(.ref b1)]))
  refine zq_go (fun _ kq => XS.iconst X1.here hx rfl (hb hby at_32) kq) ?_
  show zq_Go p e below s _ _ _ (T1.setTop (mkF m 33 #[.val (.long x0), .second, .val (.long x1), .second, .val (.long x2), .second, .val (.long x3), .second, .val (.int x4), .val (.int (Nat.toInt32 N)), .val (.int (Nat.toInt32 f)), .val (.int g), .val (.ref b1), .unset, .unset] [(.int (0 : Int32)), (.ref b1)]))
  refine zq_go (fun _ kq => XS.lload X1.here hx rfl (hb hby at_33) rfl kq) ?_
  show zq_Go p e below s _ _ _ (T1.setTop (mkF m 35 #[.val (.long x0), .second, .val (.long x1), .second, .val (.long x2), .second, .val (.long x3), .second, .val (.int x4), .val (.int (Nat.toInt32 N)), .val (.int (Nat.toInt32 f)), .val (.int g), .val (.ref b1), .unset, .unset] [(.long x2), (.int (0 : Int32)), (.ref b1)]))
  refine zq_go (fun _ kq => XS.l2i X1.here hx rfl (hb hby at_35) rfl kq) ?_
  show zq_Go p e below s _ _ _ (T1.setTop (mkF m 36 #[.val (.long x0), .second, .val (.long x1), .second, .val (.long x2), .second, .val (.long x3), .second, .val (.int x4), .val (.int (Nat.toInt32 N)), .val (.int (Nat.toInt32 f)), .val (.int g), .val (.ref b1), .unset, .unset] [(.int (x2.toInt32)), (.int (0 : Int32)), (.ref b1)]))
  refine zq_go (fun _ kq => XS.i2c X1.here hx rfl (hb hby at_36) rfl kq) ?_
  show zq_Go p e below s _ _ _ (T1.setTop (mkF m 37 #[.val (.long x0), .second, .val (.long x1), .second, .val (.long x2), .second, .val (.long x3), .second, .val (.int x4), .val (.int (Nat.toInt32 N)), .val (.int (Nat.toInt32 f)), .val (.int g), .val (.ref b1), .unset, .unset] [(.int ((x2.toInt32).toUInt32.toUInt16.toUInt32.toInt32)), (.int (0 : Int32)), (.ref b1)]))
  obtain ⟨T2, h2, X2, e2, W2, A_b1, st2⟩ := zq_stC X1 hx hZ e1 A_b1 (j := (0 : Int32)) (i := 0) (by decide) (by decide) (by decide) (g := (mkF m 37 #[.val (.long x0), .second, .val (.long x1), .second, .val (.long x2), .second, .val (.long x3), .second, .val (.int x4), .val (.int (Nat.toInt32 N)), .val (.int (Nat.toInt32 f)), .val (.int g), .val (.ref b1), .unset, .unset] [(.int ((x2.toInt32).toUInt32.toUInt16.toUInt32.toInt32)), (.int (0 : Int32)), (.ref b1)])) rfl rfl (hb hby at_37)
  refine zq_go st2 ?_
  have ZS := Nat.le_trans ZS (Keep.of_wr W2).1
  have A_b1 : zq_A Z h2 b1 .char 7 (fun k => .int (([((x2.toInt32).toUInt32.toUInt16.toUInt32.toInt32).toUInt32.toUInt16.toUInt32.toInt32, (0 : Int32), (0 : Int32), (0 : Int32), (0 : Int32), (0 : Int32), (0 : Int32)] : List Int32).getD k 0)) := A_b1.congr (fun j hj => by match j, hj with | 0, _ => rfl | 1, _ => rfl | 2, _ => rfl | 3, _ => rfl | 4, _ => rfl | 5, _ => rfl | 6, _ => rfl | (j + 7), hj => exact absurd hj (by omega))
  obtain ⟨L2, X2, NF⟩ : ∃ L : List Loc, Stand p l e room_1 s m #[(.long x0), (.long x1), (.long x2), (.long x3), (.int x4)] below meth c T2 L 1 7 ∧ Fr h0.size L := ⟨_, X2, Fr.snoc X2 NF g_b1⟩
  have hc0 : zq_chr ((x2.toInt32).toUInt32.toUInt16.toUInt32.toInt32).toUInt32.toUInt16.toUInt32.toInt32 := zq_isc _
  obtain ⟨c0, ec0⟩ : ∃ z : Int32, z = ((x2.toInt32).toUInt32.toUInt16.toUInt32.toInt32).toUInt32.toUInt16.toUInt32.toInt32 := ⟨_, rfl⟩
  rw [← ec0] at hc0 A_b1
  show zq_Go p e below s _ _ _ (T2.setTop (mkF m 38 #[.val (.long x0), .second, .val (.long x1), .second, .val (.long x2), .second, .val (.long x3), .second, .val (.int x4), .val (.int (Nat.toInt32 N)), .val (.int (Nat.toInt32 f)), .val (.int g), .val (.ref b1), .unset, .unset] []))
  refine zq_go (fun _ kq => XS.aload X2.here hx rfl (hb hby at_38) rfl rfl kq) ?_
  show zq_Go p e below s _ _ _ (T2.setTop (mkF m 40 #[.val (.long x0), .second, .val (.long x1), .second, .val (.long x2), .second, .val (.long x3), .second, .val (.int x4), .val (.int (Nat.toInt32 N)), .val (.int (Nat.toInt32 f)), .val (.int g), .val (.ref b1), .unset, .unset] [(.ref b1)]))
  refine zq_go (fun _ kq => XS.iconst X2.here hx rfl (hb hby at_40) kq) ?_
  show zq_Go p e below s _ _ _ (T2.setTop (mkF m 41 #[.val (.long x0), .second, .val (.long x1), .second, .val (.long x2), .second, .val (.long x3), .second, .val (.int x4), .val (.int (Nat.toInt32 N)), .val (.int (Nat.toInt32 f)), .val (.int g), .val (.ref b1), .unset, .unset] [(.int (1 : Int32)), (.ref b1)]))
  refine zq_go (fun _ kq => XS.lload X2.here hx rfl (hb hby at_41) rfl kq) ?_
  show zq_Go p e below s _ _ _ (T2.setTop (mkF m 43 #[.val (.long x0), .second, .val (.long x1), .second, .val (.long x2), .second, .val (.long x3), .second, .val (.int x4), .val (.int (Nat.toInt32 N)), .val (.int (Nat.toInt32 f)), .val (.int g), .val (.ref b1), .unset, .unset] [(.long x2), (.int (1 : Int32)), (.ref b1)]))
  refine zq_go (fun _ kq => XS.bipush X2.here hx rfl (hb hby at_43) kq) ?_
  show zq_Go p e below s _ _ _ (T2.setTop (mkF m 45 #[.val (.long x0), .second, .val (.long x1), .second, .val (.long x2), .second, .val (.long x3), .second, .val (.int x4), .val (.int (Nat.toInt32 N)), .val (.int (Nat.toInt32 f)), .val (.int g), .val (.ref b1), .unset, .unset] [(.int (16 : Int32)), (.long x2), (.int (1 : Int32)), (.ref b1)]))
  refine zq_go (fun _ kq => XS.lushr X2.here hx rfl (hb hby at_45) rfl kq) ?_
  show zq_Go p e below s _ _ _ (T2.setTop (mkF m 46 #[.val (.long x0), .second, .val (.long x1), .second, .val (.long x2), .second, .val (.long x3), .second, .val (.int x4), .val (.int (Nat.toInt32 N)), .val (.int (Nat.toInt32 f)), .val (.int g), .val (.ref b1), .unset, .unset] [(.long ((x2.toUInt64 >>> ((16 : Int32) &&& 0x3f).toInt64.toUInt64).toInt64)), (.int (1 : Int32)), (.ref b1)]))
  refine zq_go (fun _ kq => XS.l2i X2.here hx rfl (hb hby at_46) rfl kq) ?_
  show zq_Go p e below s _ _ _ (T2.setTop (mkF m 47 #[.val (.long x0), .second, .val (.long x1), .second, .val (.long x2), .second, .val (.long x3), .second, .val (.int x4), .val (.int (Nat.toInt32 N)), .val (.int (Nat.toInt32 f)), .val (.int g), .val (.ref b1), .unset, .unset] [(.int (((x2.toUInt64 >>> ((16 : Int32) &&& 0x3f).toInt64.toUInt64).toInt64).toInt32)), (.int (1 : Int32)), (.ref b1)]))
  refine zq_go (fun _ kq => XS.i2c X2.here hx rfl (hb hby at_47) rfl kq) ?_
  show zq_Go p e below s _ _ _ (T2.setTop (mkF m 48 #[.val (.long x0), .second, .val (.long x1), .second, .val (.long x2), .second, .val (.long x3), .second, .val (.int x4), .val (.int (Nat.toInt32 N)), .val (.int (Nat.toInt32 f)), .val (.int g), .val (.ref b1), .unset, .unset] [(.int ((((x2.toUInt64 >>> ((16 : Int32) &&& 0x3f).toInt64.toUInt64).toInt64).toInt32).toUInt32.toUInt16.toUInt32.toInt32)), (.int (1 : Int32)), (.ref b1)]))
  obtain ⟨T3, h3, X3, e3, W3, A_b1, st3⟩ := zq_stC X2 hx hZ e2 A_b1 (j := (1 : Int32)) (i := 1) (by decide) (by decide) (by decide) (g := (mkF m 48 #[.val (.long x0), .second, .val (.long x1), .second, .val (.long x2), .second, .val (.long x3), .second, .val (.int x4), .val (.int (Nat.toInt32 N)), .val (.int (Nat.toInt32 f)), .val (.int g), .val (.ref b1), .unset, .unset] [(.int ((((x2.toUInt64 >>> ((16 : Int32) &&& 0x3f).toInt64.toUInt64).toInt64).toInt32).toUInt32.toUInt16.toUInt32.toInt32)), (.int (1 : Int32)), (.ref b1)])) rfl rfl (hb hby at_48)
  refine zq_go st3 ?_
  have ZS := Nat.le_trans ZS (Keep.of_wr W3).1
  have A_b1 : zq_A Z h3 b1 .char 7 (fun k => .int (([c0, ((((x2.toUInt64 >>> ((16 : Int32) &&& 0x3f).toInt64.toUInt64).toInt64).toInt32).toUInt32.toUInt16.toUInt32.toInt32).toUInt32.toUInt16.toUInt32.toInt32, (0 : Int32), (0 : Int32), (0 : Int32), (0 : Int32), (0 : Int32)] : List Int32).getD k 0)) := A_b1.congr (fun j hj => by match j, hj with | 0, _ => rfl | 1, _ => rfl | 2, _ => rfl | 3, _ => rfl | 4, _ => rfl | 5, _ => rfl | 6, _ => rfl | (j + 7), hj => exact absurd hj (by omega))
  obtain ⟨L3, X3, NF⟩ : ∃ L : List Loc, Stand p l e room_1 s m #[(.long x0), (.long x1), (.long x2), (.long x3), (.int x4)] below meth c T3 L 1 7 ∧ Fr h0.size L := ⟨_, X3, Fr.snoc X3 NF g_b1⟩
  have hc1 : zq_chr ((((x2.toUInt64 >>> ((16 : Int32) &&& 0x3f).toInt64.toUInt64).toInt64).toInt32).toUInt32.toUInt16.toUInt32.toInt32).toUInt32.toUInt16.toUInt32.toInt32 := zq_isc _
  obtain ⟨c1, ec1⟩ : ∃ z : Int32, z = ((((x2.toUInt64 >>> ((16 : Int32) &&& 0x3f).toInt64.toUInt64).toInt64).toInt32).toUInt32.toUInt16.toUInt32.toInt32).toUInt32.toUInt16.toUInt32.toInt32 := ⟨_, rfl⟩
  rw [← ec1] at hc1 A_b1
  show zq_Go p e below s _ _ _ (T3.setTop (mkF m 49 #[.val (.long x0), .second, .val (.long x1), .second, .val (.long x2), .second, .val (.long x3), .second, .val (.int x4), .val (.int (Nat.toInt32 N)), .val (.int (Nat.toInt32 f)), .val (.int g), .val (.ref b1), .unset, .unset] []))
  refine zq_go (fun _ kq => XS.aload X3.here hx rfl (hb hby at_49) rfl rfl kq) ?_
  show zq_Go p e below s _ _ _ (T3.setTop (mkF m 51 #[.val (.long x0), .second, .val (.long x1), .second, .val (.long x2), .second, .val (.long x3), .second, .val (.int x4), .val (.int (Nat.toInt32 N)), .val (.int (Nat.toInt32 f)), .val (.int g), .val (.ref b1), .unset, .unset] [(.ref b1)]))
  refine zq_go (fun _ kq => XS.iconst X3.here hx rfl (hb hby at_51) kq) ?_
  show zq_Go p e below s _ _ _ (T3.setTop (mkF m 52 #[.val (.long x0), .second, .val (.long x1), .second, .val (.long x2), .second, .val (.long x3), .second, .val (.int x4), .val (.int (Nat.toInt32 N)), .val (.int (Nat.toInt32 f)), .val (.int g), .val (.ref b1), .unset, .unset] [(.int (2 : Int32)), (.ref b1)]))
  refine zq_go (fun _ kq => XS.lload X3.here hx rfl (hb hby at_52) rfl kq) ?_
  show zq_Go p e below s _ _ _ (T3.setTop (mkF m 54 #[.val (.long x0), .second, .val (.long x1), .second, .val (.long x2), .second, .val (.long x3), .second, .val (.int x4), .val (.int (Nat.toInt32 N)), .val (.int (Nat.toInt32 f)), .val (.int g), .val (.ref b1), .unset, .unset] [(.long x2), (.int (2 : Int32)), (.ref b1)]))
  refine zq_go (fun _ kq => XS.bipush X3.here hx rfl (hb hby at_54) kq) ?_
  show zq_Go p e below s _ _ _ (T3.setTop (mkF m 56 #[.val (.long x0), .second, .val (.long x1), .second, .val (.long x2), .second, .val (.long x3), .second, .val (.int x4), .val (.int (Nat.toInt32 N)), .val (.int (Nat.toInt32 f)), .val (.int g), .val (.ref b1), .unset, .unset] [(.int (32 : Int32)), (.long x2), (.int (2 : Int32)), (.ref b1)]))
  refine zq_go (fun _ kq => XS.lushr X3.here hx rfl (hb hby at_56) rfl kq) ?_
  show zq_Go p e below s _ _ _ (T3.setTop (mkF m 57 #[.val (.long x0), .second, .val (.long x1), .second, .val (.long x2), .second, .val (.long x3), .second, .val (.int x4), .val (.int (Nat.toInt32 N)), .val (.int (Nat.toInt32 f)), .val (.int g), .val (.ref b1), .unset, .unset] [(.long ((x2.toUInt64 >>> ((32 : Int32) &&& 0x3f).toInt64.toUInt64).toInt64)), (.int (2 : Int32)), (.ref b1)]))
  refine zq_go (fun _ kq => XS.l2i X3.here hx rfl (hb hby at_57) rfl kq) ?_
  show zq_Go p e below s _ _ _ (T3.setTop (mkF m 58 #[.val (.long x0), .second, .val (.long x1), .second, .val (.long x2), .second, .val (.long x3), .second, .val (.int x4), .val (.int (Nat.toInt32 N)), .val (.int (Nat.toInt32 f)), .val (.int g), .val (.ref b1), .unset, .unset] [(.int (((x2.toUInt64 >>> ((32 : Int32) &&& 0x3f).toInt64.toUInt64).toInt64).toInt32)), (.int (2 : Int32)), (.ref b1)]))
  refine zq_go (fun _ kq => XS.i2c X3.here hx rfl (hb hby at_58) rfl kq) ?_
  show zq_Go p e below s _ _ _ (T3.setTop (mkF m 59 #[.val (.long x0), .second, .val (.long x1), .second, .val (.long x2), .second, .val (.long x3), .second, .val (.int x4), .val (.int (Nat.toInt32 N)), .val (.int (Nat.toInt32 f)), .val (.int g), .val (.ref b1), .unset, .unset] [(.int ((((x2.toUInt64 >>> ((32 : Int32) &&& 0x3f).toInt64.toUInt64).toInt64).toInt32).toUInt32.toUInt16.toUInt32.toInt32)), (.int (2 : Int32)), (.ref b1)]))
  obtain ⟨T4, h4, X4, e4, W4, A_b1, st4⟩ := zq_stC X3 hx hZ e3 A_b1 (j := (2 : Int32)) (i := 2) (by decide) (by decide) (by decide) (g := (mkF m 59 #[.val (.long x0), .second, .val (.long x1), .second, .val (.long x2), .second, .val (.long x3), .second, .val (.int x4), .val (.int (Nat.toInt32 N)), .val (.int (Nat.toInt32 f)), .val (.int g), .val (.ref b1), .unset, .unset] [(.int ((((x2.toUInt64 >>> ((32 : Int32) &&& 0x3f).toInt64.toUInt64).toInt64).toInt32).toUInt32.toUInt16.toUInt32.toInt32)), (.int (2 : Int32)), (.ref b1)])) rfl rfl (hb hby at_59)
  refine zq_go st4 ?_
  have ZS := Nat.le_trans ZS (Keep.of_wr W4).1
  have A_b1 : zq_A Z h4 b1 .char 7 (fun k => .int (([c0, c1, ((((x2.toUInt64 >>> ((32 : Int32) &&& 0x3f).toInt64.toUInt64).toInt64).toInt32).toUInt32.toUInt16.toUInt32.toInt32).toUInt32.toUInt16.toUInt32.toInt32, (0 : Int32), (0 : Int32), (0 : Int32), (0 : Int32)] : List Int32).getD k 0)) := A_b1.congr (fun j hj => by match j, hj with | 0, _ => rfl | 1, _ => rfl | 2, _ => rfl | 3, _ => rfl | 4, _ => rfl | 5, _ => rfl | 6, _ => rfl | (j + 7), hj => exact absurd hj (by omega))
  obtain ⟨L4, X4, NF⟩ : ∃ L : List Loc, Stand p l e room_1 s m #[(.long x0), (.long x1), (.long x2), (.long x3), (.int x4)] below meth c T4 L 1 7 ∧ Fr h0.size L := ⟨_, X4, Fr.snoc X4 NF g_b1⟩
  have hc2 : zq_chr ((((x2.toUInt64 >>> ((32 : Int32) &&& 0x3f).toInt64.toUInt64).toInt64).toInt32).toUInt32.toUInt16.toUInt32.toInt32).toUInt32.toUInt16.toUInt32.toInt32 := zq_isc _
  obtain ⟨c2, ec2⟩ : ∃ z : Int32, z = ((((x2.toUInt64 >>> ((32 : Int32) &&& 0x3f).toInt64.toUInt64).toInt64).toInt32).toUInt32.toUInt16.toUInt32.toInt32).toUInt32.toUInt16.toUInt32.toInt32 := ⟨_, rfl⟩
  rw [← ec2] at hc2 A_b1
  show zq_Go p e below s _ _ _ (T4.setTop (mkF m 60 #[.val (.long x0), .second, .val (.long x1), .second, .val (.long x2), .second, .val (.long x3), .second, .val (.int x4), .val (.int (Nat.toInt32 N)), .val (.int (Nat.toInt32 f)), .val (.int g), .val (.ref b1), .unset, .unset] []))
  refine zq_go (fun _ kq => XS.aload X4.here hx rfl (hb hby at_60) rfl rfl kq) ?_
  show zq_Go p e below s _ _ _ (T4.setTop (mkF m 62 #[.val (.long x0), .second, .val (.long x1), .second, .val (.long x2), .second, .val (.long x3), .second, .val (.int x4), .val (.int (Nat.toInt32 N)), .val (.int (Nat.toInt32 f)), .val (.int g), .val (.ref b1), .unset, .unset] [(.ref b1)]))
  refine zq_go (fun _ kq => XS.iconst X4.here hx rfl (hb hby at_62) kq) ?_
  show zq_Go p e below s _ _ _ (T4.setTop (mkF m 63 #[.val (.long x0), .second, .val (.long x1), .second, .val (.long x2), .second, .val (.long x3), .second, .val (.int x4), .val (.int (Nat.toInt32 N)), .val (.int (Nat.toInt32 f)), .val (.int g), .val (.ref b1), .unset, .unset] [(.int (3 : Int32)), (.ref b1)]))
  refine zq_go (fun _ kq => XS.lload X4.here hx rfl (hb hby at_63) rfl kq) ?_
  show zq_Go p e below s _ _ _ (T4.setTop (mkF m 65 #[.val (.long x0), .second, .val (.long x1), .second, .val (.long x2), .second, .val (.long x3), .second, .val (.int x4), .val (.int (Nat.toInt32 N)), .val (.int (Nat.toInt32 f)), .val (.int g), .val (.ref b1), .unset, .unset] [(.long x2), (.int (3 : Int32)), (.ref b1)]))
  refine zq_go (fun _ kq => XS.bipush X4.here hx rfl (hb hby at_65) kq) ?_
  show zq_Go p e below s _ _ _ (T4.setTop (mkF m 67 #[.val (.long x0), .second, .val (.long x1), .second, .val (.long x2), .second, .val (.long x3), .second, .val (.int x4), .val (.int (Nat.toInt32 N)), .val (.int (Nat.toInt32 f)), .val (.int g), .val (.ref b1), .unset, .unset] [(.int (48 : Int32)), (.long x2), (.int (3 : Int32)), (.ref b1)]))
  refine zq_go (fun _ kq => XS.lushr X4.here hx rfl (hb hby at_67) rfl kq) ?_
  show zq_Go p e below s _ _ _ (T4.setTop (mkF m 68 #[.val (.long x0), .second, .val (.long x1), .second, .val (.long x2), .second, .val (.long x3), .second, .val (.int x4), .val (.int (Nat.toInt32 N)), .val (.int (Nat.toInt32 f)), .val (.int g), .val (.ref b1), .unset, .unset] [(.long ((x2.toUInt64 >>> ((48 : Int32) &&& 0x3f).toInt64.toUInt64).toInt64)), (.int (3 : Int32)), (.ref b1)]))
  refine zq_go (fun _ kq => XS.l2i X4.here hx rfl (hb hby at_68) rfl kq) ?_
  show zq_Go p e below s _ _ _ (T4.setTop (mkF m 69 #[.val (.long x0), .second, .val (.long x1), .second, .val (.long x2), .second, .val (.long x3), .second, .val (.int x4), .val (.int (Nat.toInt32 N)), .val (.int (Nat.toInt32 f)), .val (.int g), .val (.ref b1), .unset, .unset] [(.int (((x2.toUInt64 >>> ((48 : Int32) &&& 0x3f).toInt64.toUInt64).toInt64).toInt32)), (.int (3 : Int32)), (.ref b1)]))
  refine zq_go (fun _ kq => XS.i2c X4.here hx rfl (hb hby at_69) rfl kq) ?_
  show zq_Go p e below s _ _ _ (T4.setTop (mkF m 70 #[.val (.long x0), .second, .val (.long x1), .second, .val (.long x2), .second, .val (.long x3), .second, .val (.int x4), .val (.int (Nat.toInt32 N)), .val (.int (Nat.toInt32 f)), .val (.int g), .val (.ref b1), .unset, .unset] [(.int ((((x2.toUInt64 >>> ((48 : Int32) &&& 0x3f).toInt64.toUInt64).toInt64).toInt32).toUInt32.toUInt16.toUInt32.toInt32)), (.int (3 : Int32)), (.ref b1)]))
  obtain ⟨T5, h5, X5, e5, W5, A_b1, st5⟩ := zq_stC X4 hx hZ e4 A_b1 (j := (3 : Int32)) (i := 3) (by decide) (by decide) (by decide) (g := (mkF m 70 #[.val (.long x0), .second, .val (.long x1), .second, .val (.long x2), .second, .val (.long x3), .second, .val (.int x4), .val (.int (Nat.toInt32 N)), .val (.int (Nat.toInt32 f)), .val (.int g), .val (.ref b1), .unset, .unset] [(.int ((((x2.toUInt64 >>> ((48 : Int32) &&& 0x3f).toInt64.toUInt64).toInt64).toInt32).toUInt32.toUInt16.toUInt32.toInt32)), (.int (3 : Int32)), (.ref b1)])) rfl rfl (hb hby at_70)
  refine zq_go st5 ?_
  have ZS := Nat.le_trans ZS (Keep.of_wr W5).1
  have A_b1 : zq_A Z h5 b1 .char 7 (fun k => .int (([c0, c1, c2, ((((x2.toUInt64 >>> ((48 : Int32) &&& 0x3f).toInt64.toUInt64).toInt64).toInt32).toUInt32.toUInt16.toUInt32.toInt32).toUInt32.toUInt16.toUInt32.toInt32, (0 : Int32), (0 : Int32), (0 : Int32)] : List Int32).getD k 0)) := A_b1.congr (fun j hj => by match j, hj with | 0, _ => rfl | 1, _ => rfl | 2, _ => rfl | 3, _ => rfl | 4, _ => rfl | 5, _ => rfl | 6, _ => rfl | (j + 7), hj => exact absurd hj (by omega))
  obtain ⟨L5, X5, NF⟩ : ∃ L : List Loc, Stand p l e room_1 s m #[(.long x0), (.long x1), (.long x2), (.long x3), (.int x4)] below meth c T5 L 1 7 ∧ Fr h0.size L := ⟨_, X5, Fr.snoc X5 NF g_b1⟩
  have hc3 : zq_chr ((((x2.toUInt64 >>> ((48 : Int32) &&& 0x3f).toInt64.toUInt64).toInt64).toInt32).toUInt32.toUInt16.toUInt32.toInt32).toUInt32.toUInt16.toUInt32.toInt32 := zq_isc _
  obtain ⟨c3, ec3⟩ : ∃ z : Int32, z = ((((x2.toUInt64 >>> ((48 : Int32) &&& 0x3f).toInt64.toUInt64).toInt64).toInt32).toUInt32.toUInt16.toUInt32.toInt32).toUInt32.toUInt16.toUInt32.toInt32 := ⟨_, rfl⟩
  rw [← ec3] at hc3 A_b1
  show zq_Go p e below s _ _ _ (T5.setTop (mkF m 71 #[.val (.long x0), .second, .val (.long x1), .second, .val (.long x2), .second, .val (.long x3), .second, .val (.int x4), .val (.int (Nat.toInt32 N)), .val (.int (Nat.toInt32 f)), .val (.int g), .val (.ref b1), .unset, .unset] []))
  refine zq_go (fun _ kq => XS.aload X5.here hx rfl (hb hby at_71) rfl rfl kq) ?_
  show zq_Go p e below s _ _ _ (T5.setTop (mkF m 73 #[.val (.long x0), .second, .val (.long x1), .second, .val (.long x2), .second, .val (.long x3), .second, .val (.int x4), .val (.int (Nat.toInt32 N)), .val (.int (Nat.toInt32 f)), .val (.int g), .val (.ref b1), .unset, .unset] [(.ref b1)]))
  refine zq_go (fun _ kq => XS.iconst X5.here hx rfl (hb hby at_73) kq) ?_
  show zq_Go p e below s _ _ _ (T5.setTop (mkF m 74 #[.val (.long x0), .second, .val (.long x1), .second, .val (.long x2), .second, .val (.long x3), .second, .val (.int x4), .val (.int (Nat.toInt32 N)), .val (.int (Nat.toInt32 f)), .val (.int g), .val (.ref b1), .unset, .unset] [(.int (4 : Int32)), (.ref b1)]))
  refine zq_go (fun _ kq => XS.lload X5.here hx rfl (hb hby at_74) rfl kq) ?_
  show zq_Go p e below s _ _ _ (T5.setTop (mkF m 76 #[.val (.long x0), .second, .val (.long x1), .second, .val (.long x2), .second, .val (.long x3), .second, .val (.int x4), .val (.int (Nat.toInt32 N)), .val (.int (Nat.toInt32 f)), .val (.int g), .val (.ref b1), .unset, .unset] [(.long x3), (.int (4 : Int32)), (.ref b1)]))
  refine zq_go (fun _ kq => XS.l2i X5.here hx rfl (hb hby at_76) rfl kq) ?_
  show zq_Go p e below s _ _ _ (T5.setTop (mkF m 77 #[.val (.long x0), .second, .val (.long x1), .second, .val (.long x2), .second, .val (.long x3), .second, .val (.int x4), .val (.int (Nat.toInt32 N)), .val (.int (Nat.toInt32 f)), .val (.int g), .val (.ref b1), .unset, .unset] [(.int (x3.toInt32)), (.int (4 : Int32)), (.ref b1)]))
  refine zq_go (fun _ kq => XS.i2c X5.here hx rfl (hb hby at_77) rfl kq) ?_
  show zq_Go p e below s _ _ _ (T5.setTop (mkF m 78 #[.val (.long x0), .second, .val (.long x1), .second, .val (.long x2), .second, .val (.long x3), .second, .val (.int x4), .val (.int (Nat.toInt32 N)), .val (.int (Nat.toInt32 f)), .val (.int g), .val (.ref b1), .unset, .unset] [(.int ((x3.toInt32).toUInt32.toUInt16.toUInt32.toInt32)), (.int (4 : Int32)), (.ref b1)]))
  obtain ⟨T6, h6, X6, e6, W6, A_b1, st6⟩ := zq_stC X5 hx hZ e5 A_b1 (j := (4 : Int32)) (i := 4) (by decide) (by decide) (by decide) (g := (mkF m 78 #[.val (.long x0), .second, .val (.long x1), .second, .val (.long x2), .second, .val (.long x3), .second, .val (.int x4), .val (.int (Nat.toInt32 N)), .val (.int (Nat.toInt32 f)), .val (.int g), .val (.ref b1), .unset, .unset] [(.int ((x3.toInt32).toUInt32.toUInt16.toUInt32.toInt32)), (.int (4 : Int32)), (.ref b1)])) rfl rfl (hb hby at_78)
  refine zq_go st6 ?_
  have ZS := Nat.le_trans ZS (Keep.of_wr W6).1
  have A_b1 : zq_A Z h6 b1 .char 7 (fun k => .int (([c0, c1, c2, c3, ((x3.toInt32).toUInt32.toUInt16.toUInt32.toInt32).toUInt32.toUInt16.toUInt32.toInt32, (0 : Int32), (0 : Int32)] : List Int32).getD k 0)) := A_b1.congr (fun j hj => by match j, hj with | 0, _ => rfl | 1, _ => rfl | 2, _ => rfl | 3, _ => rfl | 4, _ => rfl | 5, _ => rfl | 6, _ => rfl | (j + 7), hj => exact absurd hj (by omega))
  obtain ⟨L6, X6, NF⟩ : ∃ L : List Loc, Stand p l e room_1 s m #[(.long x0), (.long x1), (.long x2), (.long x3), (.int x4)] below meth c T6 L 1 7 ∧ Fr h0.size L := ⟨_, X6, Fr.snoc X6 NF g_b1⟩
  have hc4 : zq_chr ((x3.toInt32).toUInt32.toUInt16.toUInt32.toInt32).toUInt32.toUInt16.toUInt32.toInt32 := zq_isc _
  obtain ⟨c4, ec4⟩ : ∃ z : Int32, z = ((x3.toInt32).toUInt32.toUInt16.toUInt32.toInt32).toUInt32.toUInt16.toUInt32.toInt32 := ⟨_, rfl⟩
  rw [← ec4] at hc4 A_b1
  show zq_Go p e below s _ _ _ (T6.setTop (mkF m 79 #[.val (.long x0), .second, .val (.long x1), .second, .val (.long x2), .second, .val (.long x3), .second, .val (.int x4), .val (.int (Nat.toInt32 N)), .val (.int (Nat.toInt32 f)), .val (.int g), .val (.ref b1), .unset, .unset] []))
  refine zq_go (fun _ kq => XS.aload X6.here hx rfl (hb hby at_79) rfl rfl kq) ?_
  show zq_Go p e below s _ _ _ (T6.setTop (mkF m 81 #[.val (.long x0), .second, .val (.long x1), .second, .val (.long x2), .second, .val (.long x3), .second, .val (.int x4), .val (.int (Nat.toInt32 N)), .val (.int (Nat.toInt32 f)), .val (.int g), .val (.ref b1), .unset, .unset] [(.ref b1)]))
  refine zq_go (fun _ kq => XS.iconst X6.here hx rfl (hb hby at_81) kq) ?_
  show zq_Go p e below s _ _ _ (T6.setTop (mkF m 82 #[.val (.long x0), .second, .val (.long x1), .second, .val (.long x2), .second, .val (.long x3), .second, .val (.int x4), .val (.int (Nat.toInt32 N)), .val (.int (Nat.toInt32 f)), .val (.int g), .val (.ref b1), .unset, .unset] [(.int (5 : Int32)), (.ref b1)]))
  refine zq_go (fun _ kq => XS.lload X6.here hx rfl (hb hby at_82) rfl kq) ?_
  show zq_Go p e below s _ _ _ (T6.setTop (mkF m 84 #[.val (.long x0), .second, .val (.long x1), .second, .val (.long x2), .second, .val (.long x3), .second, .val (.int x4), .val (.int (Nat.toInt32 N)), .val (.int (Nat.toInt32 f)), .val (.int g), .val (.ref b1), .unset, .unset] [(.long x3), (.int (5 : Int32)), (.ref b1)]))
  refine zq_go (fun _ kq => XS.bipush X6.here hx rfl (hb hby at_84) kq) ?_
  show zq_Go p e below s _ _ _ (T6.setTop (mkF m 86 #[.val (.long x0), .second, .val (.long x1), .second, .val (.long x2), .second, .val (.long x3), .second, .val (.int x4), .val (.int (Nat.toInt32 N)), .val (.int (Nat.toInt32 f)), .val (.int g), .val (.ref b1), .unset, .unset] [(.int (16 : Int32)), (.long x3), (.int (5 : Int32)), (.ref b1)]))
  refine zq_go (fun _ kq => XS.lushr X6.here hx rfl (hb hby at_86) rfl kq) ?_
  show zq_Go p e below s _ _ _ (T6.setTop (mkF m 87 #[.val (.long x0), .second, .val (.long x1), .second, .val (.long x2), .second, .val (.long x3), .second, .val (.int x4), .val (.int (Nat.toInt32 N)), .val (.int (Nat.toInt32 f)), .val (.int g), .val (.ref b1), .unset, .unset] [(.long ((x3.toUInt64 >>> ((16 : Int32) &&& 0x3f).toInt64.toUInt64).toInt64)), (.int (5 : Int32)), (.ref b1)]))
  refine zq_go (fun _ kq => XS.l2i X6.here hx rfl (hb hby at_87) rfl kq) ?_
  show zq_Go p e below s _ _ _ (T6.setTop (mkF m 88 #[.val (.long x0), .second, .val (.long x1), .second, .val (.long x2), .second, .val (.long x3), .second, .val (.int x4), .val (.int (Nat.toInt32 N)), .val (.int (Nat.toInt32 f)), .val (.int g), .val (.ref b1), .unset, .unset] [(.int (((x3.toUInt64 >>> ((16 : Int32) &&& 0x3f).toInt64.toUInt64).toInt64).toInt32)), (.int (5 : Int32)), (.ref b1)]))
  refine zq_go (fun _ kq => XS.i2c X6.here hx rfl (hb hby at_88) rfl kq) ?_
  show zq_Go p e below s _ _ _ (T6.setTop (mkF m 89 #[.val (.long x0), .second, .val (.long x1), .second, .val (.long x2), .second, .val (.long x3), .second, .val (.int x4), .val (.int (Nat.toInt32 N)), .val (.int (Nat.toInt32 f)), .val (.int g), .val (.ref b1), .unset, .unset] [(.int ((((x3.toUInt64 >>> ((16 : Int32) &&& 0x3f).toInt64.toUInt64).toInt64).toInt32).toUInt32.toUInt16.toUInt32.toInt32)), (.int (5 : Int32)), (.ref b1)]))
  obtain ⟨T7, h7, X7, e7, W7, A_b1, st7⟩ := zq_stC X6 hx hZ e6 A_b1 (j := (5 : Int32)) (i := 5) (by decide) (by decide) (by decide) (g := (mkF m 89 #[.val (.long x0), .second, .val (.long x1), .second, .val (.long x2), .second, .val (.long x3), .second, .val (.int x4), .val (.int (Nat.toInt32 N)), .val (.int (Nat.toInt32 f)), .val (.int g), .val (.ref b1), .unset, .unset] [(.int ((((x3.toUInt64 >>> ((16 : Int32) &&& 0x3f).toInt64.toUInt64).toInt64).toInt32).toUInt32.toUInt16.toUInt32.toInt32)), (.int (5 : Int32)), (.ref b1)])) rfl rfl (hb hby at_89)
  refine zq_go st7 ?_
  have ZS := Nat.le_trans ZS (Keep.of_wr W7).1
  have A_b1 : zq_A Z h7 b1 .char 7 (fun k => .int (([c0, c1, c2, c3, c4, ((((x3.toUInt64 >>> ((16 : Int32) &&& 0x3f).toInt64.toUInt64).toInt64).toInt32).toUInt32.toUInt16.toUInt32.toInt32).toUInt32.toUInt16.toUInt32.toInt32, (0 : Int32)] : List Int32).getD k 0)) := A_b1.congr (fun j hj => by match j, hj with | 0, _ => rfl | 1, _ => rfl | 2, _ => rfl | 3, _ => rfl | 4, _ => rfl | 5, _ => rfl | 6, _ => rfl | (j + 7), hj => exact absurd hj (by omega))
  obtain ⟨L7, X7, NF⟩ : ∃ L : List Loc, Stand p l e room_1 s m #[(.long x0), (.long x1), (.long x2), (.long x3), (.int x4)] below meth c T7 L 1 7 ∧ Fr h0.size L := ⟨_, X7, Fr.snoc X7 NF g_b1⟩
  have hc5 : zq_chr ((((x3.toUInt64 >>> ((16 : Int32) &&& 0x3f).toInt64.toUInt64).toInt64).toInt32).toUInt32.toUInt16.toUInt32.toInt32).toUInt32.toUInt16.toUInt32.toInt32 := zq_isc _
  obtain ⟨c5, ec5⟩ : ∃ z : Int32, z = ((((x3.toUInt64 >>> ((16 : Int32) &&& 0x3f).toInt64.toUInt64).toInt64).toInt32).toUInt32.toUInt16.toUInt32.toInt32).toUInt32.toUInt16.toUInt32.toInt32 := ⟨_, rfl⟩
  rw [← ec5] at hc5 A_b1
  show zq_Go p e below s _ _ _ (T7.setTop (mkF m 90 #[.val (.long x0), .second, .val (.long x1), .second, .val (.long x2), .second, .val (.long x3), .second, .val (.int x4), .val (.int (Nat.toInt32 N)), .val (.int (Nat.toInt32 f)), .val (.int g), .val (.ref b1), .unset, .unset] []))
  refine zq_go (fun _ kq => XS.aload X7.here hx rfl (hb hby at_90) rfl rfl kq) ?_
  show zq_Go p e below s _ _ _ (T7.setTop (mkF m 92 #[.val (.long x0), .second, .val (.long x1), .second, .val (.long x2), .second, .val (.long x3), .second, .val (.int x4), .val (.int (Nat.toInt32 N)), .val (.int (Nat.toInt32 f)), .val (.int g), .val (.ref b1), .unset, .unset] [(.ref b1)]))
  refine zq_go (fun _ kq => XS.bipush X7.here hx rfl (hb hby at_92) kq) ?_
  show zq_Go p e below s _ _ _ (T7.setTop (mkF m 94 #[.val (.long x0), .second, .val (.long x1), .second, .val (.long x2), .second, .val (.long x3), .second, .val (.int x4), .val (.int (Nat.toInt32 N)), .val (.int (Nat.toInt32 f)), .val (.int g), .val (.ref b1), .unset, .unset] [(.int (6 : Int32)), (.ref b1)]))
  refine zq_go (fun _ kq => XS.lload X7.here hx rfl (hb hby at_94) rfl kq) ?_
  show zq_Go p e below s _ _ _ (T7.setTop (mkF m 96 #[.val (.long x0), .second, .val (.long x1), .second, .val (.long x2), .second, .val (.long x3), .second, .val (.int x4), .val (.int (Nat.toInt32 N)), .val (.int (Nat.toInt32 f)), .val (.int g), .val (.ref b1), .unset, .unset] [(.long x3), (.int (6 : Int32)), (.ref b1)]))
  refine zq_go (fun _ kq => XS.bipush X7.here hx rfl (hb hby at_96) kq) ?_
  show zq_Go p e below s _ _ _ (T7.setTop (mkF m 98 #[.val (.long x0), .second, .val (.long x1), .second, .val (.long x2), .second, .val (.long x3), .second, .val (.int x4), .val (.int (Nat.toInt32 N)), .val (.int (Nat.toInt32 f)), .val (.int g), .val (.ref b1), .unset, .unset] [(.int (32 : Int32)), (.long x3), (.int (6 : Int32)), (.ref b1)]))
  refine zq_go (fun _ kq => XS.lushr X7.here hx rfl (hb hby at_98) rfl kq) ?_
  show zq_Go p e below s _ _ _ (T7.setTop (mkF m 99 #[.val (.long x0), .second, .val (.long x1), .second, .val (.long x2), .second, .val (.long x3), .second, .val (.int x4), .val (.int (Nat.toInt32 N)), .val (.int (Nat.toInt32 f)), .val (.int g), .val (.ref b1), .unset, .unset] [(.long ((x3.toUInt64 >>> ((32 : Int32) &&& 0x3f).toInt64.toUInt64).toInt64)), (.int (6 : Int32)), (.ref b1)]))
  refine zq_go (fun _ kq => XS.l2i X7.here hx rfl (hb hby at_99) rfl kq) ?_
  show zq_Go p e below s _ _ _ (T7.setTop (mkF m 100 #[.val (.long x0), .second, .val (.long x1), .second, .val (.long x2), .second, .val (.long x3), .second, .val (.int x4), .val (.int (Nat.toInt32 N)), .val (.int (Nat.toInt32 f)), .val (.int g), .val (.ref b1), .unset, .unset] [(.int (((x3.toUInt64 >>> ((32 : Int32) &&& 0x3f).toInt64.toUInt64).toInt64).toInt32)), (.int (6 : Int32)), (.ref b1)]))
  refine zq_go (fun _ kq => XS.i2c X7.here hx rfl (hb hby at_100) rfl kq) ?_
  show zq_Go p e below s _ _ _ (T7.setTop (mkF m 101 #[.val (.long x0), .second, .val (.long x1), .second, .val (.long x2), .second, .val (.long x3), .second, .val (.int x4), .val (.int (Nat.toInt32 N)), .val (.int (Nat.toInt32 f)), .val (.int g), .val (.ref b1), .unset, .unset] [(.int ((((x3.toUInt64 >>> ((32 : Int32) &&& 0x3f).toInt64.toUInt64).toInt64).toInt32).toUInt32.toUInt16.toUInt32.toInt32)), (.int (6 : Int32)), (.ref b1)]))
  obtain ⟨T8, h8, X8, e8, W8, A_b1, st8⟩ := zq_stC X7 hx hZ e7 A_b1 (j := (6 : Int32)) (i := 6) (by decide) (by decide) (by decide) (g := (mkF m 101 #[.val (.long x0), .second, .val (.long x1), .second, .val (.long x2), .second, .val (.long x3), .second, .val (.int x4), .val (.int (Nat.toInt32 N)), .val (.int (Nat.toInt32 f)), .val (.int g), .val (.ref b1), .unset, .unset] [(.int ((((x3.toUInt64 >>> ((32 : Int32) &&& 0x3f).toInt64.toUInt64).toInt64).toInt32).toUInt32.toUInt16.toUInt32.toInt32)), (.int (6 : Int32)), (.ref b1)])) rfl rfl (hb hby at_101)
  refine zq_go st8 ?_
  have ZS := Nat.le_trans ZS (Keep.of_wr W8).1
  have A_b1 : zq_A Z h8 b1 .char 7 (fun k => .int (([c0, c1, c2, c3, c4, c5, ((((x3.toUInt64 >>> ((32 : Int32) &&& 0x3f).toInt64.toUInt64).toInt64).toInt32).toUInt32.toUInt16.toUInt32.toInt32).toUInt32.toUInt16.toUInt32.toInt32] : List Int32).getD k 0)) := A_b1.congr (fun j hj => by match j, hj with | 0, _ => rfl | 1, _ => rfl | 2, _ => rfl | 3, _ => rfl | 4, _ => rfl | 5, _ => rfl | 6, _ => rfl | (j + 7), hj => exact absurd hj (by omega))
  obtain ⟨L8, X8, NF⟩ : ∃ L : List Loc, Stand p l e room_1 s m #[(.long x0), (.long x1), (.long x2), (.long x3), (.int x4)] below meth c T8 L 1 7 ∧ Fr h0.size L := ⟨_, X8, Fr.snoc X8 NF g_b1⟩
  have hc6 : zq_chr ((((x3.toUInt64 >>> ((32 : Int32) &&& 0x3f).toInt64.toUInt64).toInt64).toInt32).toUInt32.toUInt16.toUInt32.toInt32).toUInt32.toUInt16.toUInt32.toInt32 := zq_isc _
  obtain ⟨c6, ec6⟩ : ∃ z : Int32, z = ((((x3.toUInt64 >>> ((32 : Int32) &&& 0x3f).toInt64.toUInt64).toInt64).toInt32).toUInt32.toUInt16.toUInt32.toInt32).toUInt32.toUInt16.toUInt32.toInt32 := ⟨_, rfl⟩
  rw [← ec6] at hc6 A_b1
  show zq_Go p e below s _ _ _ (T8.setTop (mkF m 102 #[.val (.long x0), .second, .val (.long x1), .second, .val (.long x2), .second, .val (.long x3), .second, .val (.int x4), .val (.int (Nat.toInt32 N)), .val (.int (Nat.toInt32 f)), .val (.int g), .val (.ref b1), .unset, .unset] []))
  refine zq_go (fun _ kq => XS.bipush X8.here hx rfl (hb hby at_102) kq) ?_
  show zq_Go p e below s _ _ _ (T8.setTop (mkF m 104 #[.val (.long x0), .second, .val (.long x1), .second, .val (.long x2), .second, .val (.long x3), .second, .val (.int x4), .val (.int (Nat.toInt32 N)), .val (.int (Nat.toInt32 f)), .val (.int g), .val (.ref b1), .unset, .unset] [(.int (12 : Int32))]))
  obtain ⟨T9, h9, b9, gb9, X9, e9, E9, A_b9, st9⟩ := zq_newA (aty := .char) X8 hx hZ (hw _ (List.mem_of_getElem? (i := 0) rfl)) e8 (g := (mkF m 104 #[.val (.long x0), .second, .val (.long x1), .second, .val (.long x2), .second, .val (.long x3), .second, .val (.int x4), .val (.int (Nat.toInt32 N)), .val (.int (Nat.toInt32 f)), .val (.int g), .val (.ref b1), .unset, .unset] [(.int (12 : Int32))])) rfl (hb hby at_104) rfl (by decide) (n := 12) (by decide) (cap := 12) (by decide) (by decide) (by decide) (by decide)
  have ne_b1_b9 : b1 ≠ b9 := zq_ne A_b1.lt gb9
  have ne_b9_b1 : b9 ≠ b1 := zq_ne' A_b1.lt gb9
  have g_b9 : h0.size ≤ b9 := by rw [gb9]; exact ZS
  have A_b1 := A_b1.ext E9
  have ZS := Nat.le_trans ZS E9.1
  have X9 : Stand p l e room_1 s m #[(.long x0), (.long x1), (.long x2), (.long x3), (.int x4)] below meth c T9 L8 2 19 := X9
  have A_b9 : zq_A Z h9 b9 .char 12 (fun k => .int (([(0 : Int32), (0 : Int32), (0 : Int32), (0 : Int32), (0 : Int32), (0 : Int32), (0 : Int32), (0 : Int32), (0 : Int32), (0 : Int32), (0 : Int32), (0 : Int32)] : List Int32).getD k 0)) := A_b9.congr (fun j hj => by match j, hj with | 0, _ => rfl | 1, _ => rfl | 2, _ => rfl | 3, _ => rfl | 4, _ => rfl | 5, _ => rfl | 6, _ => rfl | 7, _ => rfl | 8, _ => rfl | 9, _ => rfl | 10, _ => rfl | 11, _ => rfl | (j + 12), hj => exact absurd hj (by omega))
  refine zq_go st9 ?_
  show zq_Go p e below s _ _ _ (T9.setTop (mkF m 106 #[.val (.long x0), .second, .val (.long x1), .second, .val (.long x2), .second, .val (.long x3), .second, .val (.int x4), .val (.int (Nat.toInt32 N)), .val (.int (Nat.toInt32 f)), .val (.int g), .val (.ref b1), .unset, .unset] [(.ref b9)]))
  refine zq_go (fun _ kq => XS.astore X9.here hx rfl (hb hby at_106) rfl rfl (l' := #[.val (.long x0), .second, .val (.long x1), .second, .val (.long x2), .second, .val (.long x3), .second, .val (.int x4), .val (.int (Nat.toInt32 N)), .val (.int (Nat.toInt32 f)), .val (.int g), .val (.ref b1), .val (.ref b9), .unset]) rfl kq) ?_
  show zq_Go p e below s _ _ _ (T9.setTop (mkF m 108 #[.val (.long x0), .second, .val (.long x1), .second, .val (.long x2), .second, .val (.long x3), .second, .val (.int x4), .val (.int (Nat.toInt32 N)), .val (.int (Nat.toInt32 f)), .val (.int g), .val (.ref b1), .val (.ref b9), .unset] []))
  refine zq_go (fun _ kq => XS.aload X9.here hx rfl (hb hby at_108) rfl rfl kq) ?_
  show zq_Go p e below s _ _ _ (T9.setTop (mkF m 110 #[.val (.long x0), .second, .val (.long x1), .second, .val (.long x2), .second, .val (.long x3), .second, .val (.int x4), .val (.int (Nat.toInt32 N)), .val (.int (Nat.toInt32 f)), .val (.int g), .val (.ref b1), .val (.ref b9), .unset] [(.ref b9)]))
  refine zq_go (fun _ kq => XS.iconst X9.here hx rfl (hb hby at_110) kq) ?_
  show zq_Go p e below s _ _ _ (T9.setTop (mkF m 111 #[.val (.long x0), .second, .val (.long x1), .second, .val (.long x2), .second, .val (.long x3), .second, .val (.int x4), .val (.int (Nat.toInt32 N)), .val (.int (Nat.toInt32 f)), .val (.int g), .val (.ref b1), .val (.ref b9), .unset] [(.int (0 : Int32)), (.ref b9)]))
  refine zq_go (fun _ kq => XS.iload X9.here hx rfl (hb hby at_111) rfl kq) ?_
  show zq_Go p e below s _ _ _ (T9.setTop (mkF m 113 #[.val (.long x0), .second, .val (.long x1), .second, .val (.long x2), .second, .val (.long x3), .second, .val (.int x4), .val (.int (Nat.toInt32 N)), .val (.int (Nat.toInt32 f)), .val (.int g), .val (.ref b1), .val (.ref b9), .unset] [(.int g), (.int (0 : Int32)), (.ref b9)]))
  obtain ⟨T10, h10, X10, e10, W10, A_b9, st10⟩ := zq_stC X9 hx hZ e9 A_b9 (j := (0 : Int32)) (i := 0) (by decide) (by decide) (by decide) (g := (mkF m 113 #[.val (.long x0), .second, .val (.long x1), .second, .val (.long x2), .second, .val (.long x3), .second, .val (.int x4), .val (.int (Nat.toInt32 N)), .val (.int (Nat.toInt32 f)), .val (.int g), .val (.ref b1), .val (.ref b9), .unset] [(.int g), (.int (0 : Int32)), (.ref b9)])) rfl rfl (hb hby at_113)
  refine zq_go st10 ?_
  have A_b1 := A_b1.other W10 ne_b1_b9
  have ZS := Nat.le_trans ZS (Keep.of_wr W10).1
  have A_b9 : zq_A Z h10 b9 .char 12 (fun k => .int (([g.toUInt32.toUInt16.toUInt32.toInt32, (0 : Int32), (0 : Int32), (0 : Int32), (0 : Int32), (0 : Int32), (0 : Int32), (0 : Int32), (0 : Int32), (0 : Int32), (0 : Int32), (0 : Int32)] : List Int32).getD k 0)) := A_b9.congr (fun j hj => by match j, hj with | 0, _ => rfl | 1, _ => rfl | 2, _ => rfl | 3, _ => rfl | 4, _ => rfl | 5, _ => rfl | 6, _ => rfl | 7, _ => rfl | 8, _ => rfl | 9, _ => rfl | 10, _ => rfl | 11, _ => rfl | (j + 12), hj => exact absurd hj (by omega))
  obtain ⟨L10, X10, NF⟩ : ∃ L : List Loc, Stand p l e room_1 s m #[(.long x0), (.long x1), (.long x2), (.long x3), (.int x4)] below meth c T10 L 2 19 ∧ Fr h0.size L := ⟨_, X10, Fr.snoc X10 NF g_b9⟩
  rw [zq_gg hg] at A_b9
  show zq_Go p e below s _ _ _ (T10.setTop (mkF m 114 #[.val (.long x0), .second, .val (.long x1), .second, .val (.long x2), .second, .val (.long x3), .second, .val (.int x4), .val (.int (Nat.toInt32 N)), .val (.int (Nat.toInt32 f)), .val (.int g), .val (.ref b1), .val (.ref b9), .unset] []))
  refine zq_go (fun _ kq => XS.aload X10.here hx rfl (hb hby at_114) rfl rfl kq) ?_
  show zq_Go p e below s _ _ _ (T10.setTop (mkF m 116 #[.val (.long x0), .second, .val (.long x1), .second, .val (.long x2), .second, .val (.long x3), .second, .val (.int x4), .val (.int (Nat.toInt32 N)), .val (.int (Nat.toInt32 f)), .val (.int g), .val (.ref b1), .val (.ref b9), .unset] [(.ref b9)]))
  refine zq_go (fun _ kq => XS.iconst X10.here hx rfl (hb hby at_116) kq) ?_
  show zq_Go p e below s _ _ _ (T10.setTop (mkF m 117 #[.val (.long x0), .second, .val (.long x1), .second, .val (.long x2), .second, .val (.long x3), .second, .val (.int x4), .val (.int (Nat.toInt32 N)), .val (.int (Nat.toInt32 f)), .val (.int g), .val (.ref b1), .val (.ref b9), .unset] [(.int (1 : Int32)), (.ref b9)]))
  refine zq_go (fun _ kq => XS.iload X10.here hx rfl (hb hby at_117) rfl kq) ?_
  show zq_Go p e below s _ _ _ (T10.setTop (mkF m 119 #[.val (.long x0), .second, .val (.long x1), .second, .val (.long x2), .second, .val (.long x3), .second, .val (.int x4), .val (.int (Nat.toInt32 N)), .val (.int (Nat.toInt32 f)), .val (.int g), .val (.ref b1), .val (.ref b9), .unset] [(.int g), (.int (1 : Int32)), (.ref b9)]))
  obtain ⟨T11, h11, X11, e11, W11, A_b9, st11⟩ := zq_stC X10 hx hZ e10 A_b9 (j := (1 : Int32)) (i := 1) (by decide) (by decide) (by decide) (g := (mkF m 119 #[.val (.long x0), .second, .val (.long x1), .second, .val (.long x2), .second, .val (.long x3), .second, .val (.int x4), .val (.int (Nat.toInt32 N)), .val (.int (Nat.toInt32 f)), .val (.int g), .val (.ref b1), .val (.ref b9), .unset] [(.int g), (.int (1 : Int32)), (.ref b9)])) rfl rfl (hb hby at_119)
  refine zq_go st11 ?_
  have A_b1 := A_b1.other W11 ne_b1_b9
  have ZS := Nat.le_trans ZS (Keep.of_wr W11).1
  have A_b9 : zq_A Z h11 b9 .char 12 (fun k => .int (([g, g.toUInt32.toUInt16.toUInt32.toInt32, (0 : Int32), (0 : Int32), (0 : Int32), (0 : Int32), (0 : Int32), (0 : Int32), (0 : Int32), (0 : Int32), (0 : Int32), (0 : Int32)] : List Int32).getD k 0)) := A_b9.congr (fun j hj => by match j, hj with | 0, _ => rfl | 1, _ => rfl | 2, _ => rfl | 3, _ => rfl | 4, _ => rfl | 5, _ => rfl | 6, _ => rfl | 7, _ => rfl | 8, _ => rfl | 9, _ => rfl | 10, _ => rfl | 11, _ => rfl | (j + 12), hj => exact absurd hj (by omega))
  obtain ⟨L11, X11, NF⟩ : ∃ L : List Loc, Stand p l e room_1 s m #[(.long x0), (.long x1), (.long x2), (.long x3), (.int x4)] below meth c T11 L 2 19 ∧ Fr h0.size L := ⟨_, X11, Fr.snoc X11 NF g_b9⟩
  rw [zq_gg hg] at A_b9
  show zq_Go p e below s _ _ _ (T11.setTop (mkF m 120 #[.val (.long x0), .second, .val (.long x1), .second, .val (.long x2), .second, .val (.long x3), .second, .val (.int x4), .val (.int (Nat.toInt32 N)), .val (.int (Nat.toInt32 f)), .val (.int g), .val (.ref b1), .val (.ref b9), .unset] []))
  refine zq_go (fun _ kq => XS.aload X11.here hx rfl (hb hby at_120) rfl rfl kq) ?_
  show zq_Go p e below s _ _ _ (T11.setTop (mkF m 122 #[.val (.long x0), .second, .val (.long x1), .second, .val (.long x2), .second, .val (.long x3), .second, .val (.int x4), .val (.int (Nat.toInt32 N)), .val (.int (Nat.toInt32 f)), .val (.int g), .val (.ref b1), .val (.ref b9), .unset] [(.ref b9)]))
  refine zq_go (fun _ kq => XS.iconst X11.here hx rfl (hb hby at_122) kq) ?_
  show zq_Go p e below s _ _ _ (T11.setTop (mkF m 123 #[.val (.long x0), .second, .val (.long x1), .second, .val (.long x2), .second, .val (.long x3), .second, .val (.int x4), .val (.int (Nat.toInt32 N)), .val (.int (Nat.toInt32 f)), .val (.int g), .val (.ref b1), .val (.ref b9), .unset] [(.int (2 : Int32)), (.ref b9)]))
  refine zq_go (fun _ kq => XS.iload X11.here hx rfl (hb hby at_123) rfl kq) ?_
  show zq_Go p e below s _ _ _ (T11.setTop (mkF m 125 #[.val (.long x0), .second, .val (.long x1), .second, .val (.long x2), .second, .val (.long x3), .second, .val (.int x4), .val (.int (Nat.toInt32 N)), .val (.int (Nat.toInt32 f)), .val (.int g), .val (.ref b1), .val (.ref b9), .unset] [(.int g), (.int (2 : Int32)), (.ref b9)]))
  obtain ⟨T12, h12, X12, e12, W12, A_b9, st12⟩ := zq_stC X11 hx hZ e11 A_b9 (j := (2 : Int32)) (i := 2) (by decide) (by decide) (by decide) (g := (mkF m 125 #[.val (.long x0), .second, .val (.long x1), .second, .val (.long x2), .second, .val (.long x3), .second, .val (.int x4), .val (.int (Nat.toInt32 N)), .val (.int (Nat.toInt32 f)), .val (.int g), .val (.ref b1), .val (.ref b9), .unset] [(.int g), (.int (2 : Int32)), (.ref b9)])) rfl rfl (hb hby at_125)
  refine zq_go st12 ?_
  have A_b1 := A_b1.other W12 ne_b1_b9
  have ZS := Nat.le_trans ZS (Keep.of_wr W12).1
  have A_b9 : zq_A Z h12 b9 .char 12 (fun k => .int (([g, g, g.toUInt32.toUInt16.toUInt32.toInt32, (0 : Int32), (0 : Int32), (0 : Int32), (0 : Int32), (0 : Int32), (0 : Int32), (0 : Int32), (0 : Int32), (0 : Int32)] : List Int32).getD k 0)) := A_b9.congr (fun j hj => by match j, hj with | 0, _ => rfl | 1, _ => rfl | 2, _ => rfl | 3, _ => rfl | 4, _ => rfl | 5, _ => rfl | 6, _ => rfl | 7, _ => rfl | 8, _ => rfl | 9, _ => rfl | 10, _ => rfl | 11, _ => rfl | (j + 12), hj => exact absurd hj (by omega))
  obtain ⟨L12, X12, NF⟩ : ∃ L : List Loc, Stand p l e room_1 s m #[(.long x0), (.long x1), (.long x2), (.long x3), (.int x4)] below meth c T12 L 2 19 ∧ Fr h0.size L := ⟨_, X12, Fr.snoc X12 NF g_b9⟩
  rw [zq_gg hg] at A_b9
  show zq_Go p e below s _ _ _ (T12.setTop (mkF m 126 #[.val (.long x0), .second, .val (.long x1), .second, .val (.long x2), .second, .val (.long x3), .second, .val (.int x4), .val (.int (Nat.toInt32 N)), .val (.int (Nat.toInt32 f)), .val (.int g), .val (.ref b1), .val (.ref b9), .unset] []))
  refine zq_go (fun _ kq => XS.aload X12.here hx rfl (hb hby at_126) rfl rfl kq) ?_
  show zq_Go p e below s _ _ _ (T12.setTop (mkF m 128 #[.val (.long x0), .second, .val (.long x1), .second, .val (.long x2), .second, .val (.long x3), .second, .val (.int x4), .val (.int (Nat.toInt32 N)), .val (.int (Nat.toInt32 f)), .val (.int g), .val (.ref b1), .val (.ref b9), .unset] [(.ref b9)]))
  refine zq_go (fun _ kq => XS.iconst X12.here hx rfl (hb hby at_128) kq) ?_
  show zq_Go p e below s _ _ _ (T12.setTop (mkF m 129 #[.val (.long x0), .second, .val (.long x1), .second, .val (.long x2), .second, .val (.long x3), .second, .val (.int x4), .val (.int (Nat.toInt32 N)), .val (.int (Nat.toInt32 f)), .val (.int g), .val (.ref b1), .val (.ref b9), .unset] [(.int (3 : Int32)), (.ref b9)]))
  refine zq_go (fun _ kq => XS.iload X12.here hx rfl (hb hby at_129) rfl kq) ?_
  show zq_Go p e below s _ _ _ (T12.setTop (mkF m 131 #[.val (.long x0), .second, .val (.long x1), .second, .val (.long x2), .second, .val (.long x3), .second, .val (.int x4), .val (.int (Nat.toInt32 N)), .val (.int (Nat.toInt32 f)), .val (.int g), .val (.ref b1), .val (.ref b9), .unset] [(.int g), (.int (3 : Int32)), (.ref b9)]))
  obtain ⟨T13, h13, X13, e13, W13, A_b9, st13⟩ := zq_stC X12 hx hZ e12 A_b9 (j := (3 : Int32)) (i := 3) (by decide) (by decide) (by decide) (g := (mkF m 131 #[.val (.long x0), .second, .val (.long x1), .second, .val (.long x2), .second, .val (.long x3), .second, .val (.int x4), .val (.int (Nat.toInt32 N)), .val (.int (Nat.toInt32 f)), .val (.int g), .val (.ref b1), .val (.ref b9), .unset] [(.int g), (.int (3 : Int32)), (.ref b9)])) rfl rfl (hb hby at_131)
  refine zq_go st13 ?_
  have A_b1 := A_b1.other W13 ne_b1_b9
  have ZS := Nat.le_trans ZS (Keep.of_wr W13).1
  have A_b9 : zq_A Z h13 b9 .char 12 (fun k => .int (([g, g, g, g.toUInt32.toUInt16.toUInt32.toInt32, (0 : Int32), (0 : Int32), (0 : Int32), (0 : Int32), (0 : Int32), (0 : Int32), (0 : Int32), (0 : Int32)] : List Int32).getD k 0)) := A_b9.congr (fun j hj => by match j, hj with | 0, _ => rfl | 1, _ => rfl | 2, _ => rfl | 3, _ => rfl | 4, _ => rfl | 5, _ => rfl | 6, _ => rfl | 7, _ => rfl | 8, _ => rfl | 9, _ => rfl | 10, _ => rfl | 11, _ => rfl | (j + 12), hj => exact absurd hj (by omega))
  obtain ⟨L13, X13, NF⟩ : ∃ L : List Loc, Stand p l e room_1 s m #[(.long x0), (.long x1), (.long x2), (.long x3), (.int x4)] below meth c T13 L 2 19 ∧ Fr h0.size L := ⟨_, X13, Fr.snoc X13 NF g_b9⟩
  rw [zq_gg hg] at A_b9
  show zq_Go p e below s _ _ _ (T13.setTop (mkF m 132 #[.val (.long x0), .second, .val (.long x1), .second, .val (.long x2), .second, .val (.long x3), .second, .val (.int x4), .val (.int (Nat.toInt32 N)), .val (.int (Nat.toInt32 f)), .val (.int g), .val (.ref b1), .val (.ref b9), .unset] []))
  refine zq_go (fun _ kq => XS.aload X13.here hx rfl (hb hby at_132) rfl rfl kq) ?_
  show zq_Go p e below s _ _ _ (T13.setTop (mkF m 134 #[.val (.long x0), .second, .val (.long x1), .second, .val (.long x2), .second, .val (.long x3), .second, .val (.int x4), .val (.int (Nat.toInt32 N)), .val (.int (Nat.toInt32 f)), .val (.int g), .val (.ref b1), .val (.ref b9), .unset] [(.ref b9)]))
  refine zq_go (fun _ kq => XS.iconst X13.here hx rfl (hb hby at_134) kq) ?_
  show zq_Go p e below s _ _ _ (T13.setTop (mkF m 135 #[.val (.long x0), .second, .val (.long x1), .second, .val (.long x2), .second, .val (.long x3), .second, .val (.int x4), .val (.int (Nat.toInt32 N)), .val (.int (Nat.toInt32 f)), .val (.int g), .val (.ref b1), .val (.ref b9), .unset] [(.int (4 : Int32)), (.ref b9)]))
  refine zq_go (fun _ kq => XS.iload X13.here hx rfl (hb hby at_135) rfl kq) ?_
  show zq_Go p e below s _ _ _ (T13.setTop (mkF m 137 #[.val (.long x0), .second, .val (.long x1), .second, .val (.long x2), .second, .val (.long x3), .second, .val (.int x4), .val (.int (Nat.toInt32 N)), .val (.int (Nat.toInt32 f)), .val (.int g), .val (.ref b1), .val (.ref b9), .unset] [(.int g), (.int (4 : Int32)), (.ref b9)]))
  obtain ⟨T14, h14, X14, e14, W14, A_b9, st14⟩ := zq_stC X13 hx hZ e13 A_b9 (j := (4 : Int32)) (i := 4) (by decide) (by decide) (by decide) (g := (mkF m 137 #[.val (.long x0), .second, .val (.long x1), .second, .val (.long x2), .second, .val (.long x3), .second, .val (.int x4), .val (.int (Nat.toInt32 N)), .val (.int (Nat.toInt32 f)), .val (.int g), .val (.ref b1), .val (.ref b9), .unset] [(.int g), (.int (4 : Int32)), (.ref b9)])) rfl rfl (hb hby at_137)
  refine zq_go st14 ?_
  have A_b1 := A_b1.other W14 ne_b1_b9
  have ZS := Nat.le_trans ZS (Keep.of_wr W14).1
  have A_b9 : zq_A Z h14 b9 .char 12 (fun k => .int (([g, g, g, g, g.toUInt32.toUInt16.toUInt32.toInt32, (0 : Int32), (0 : Int32), (0 : Int32), (0 : Int32), (0 : Int32), (0 : Int32), (0 : Int32)] : List Int32).getD k 0)) := A_b9.congr (fun j hj => by match j, hj with | 0, _ => rfl | 1, _ => rfl | 2, _ => rfl | 3, _ => rfl | 4, _ => rfl | 5, _ => rfl | 6, _ => rfl | 7, _ => rfl | 8, _ => rfl | 9, _ => rfl | 10, _ => rfl | 11, _ => rfl | (j + 12), hj => exact absurd hj (by omega))
  obtain ⟨L14, X14, NF⟩ : ∃ L : List Loc, Stand p l e room_1 s m #[(.long x0), (.long x1), (.long x2), (.long x3), (.int x4)] below meth c T14 L 2 19 ∧ Fr h0.size L := ⟨_, X14, Fr.snoc X14 NF g_b9⟩
  rw [zq_gg hg] at A_b9
  show zq_Go p e below s _ _ _ (T14.setTop (mkF m 138 #[.val (.long x0), .second, .val (.long x1), .second, .val (.long x2), .second, .val (.long x3), .second, .val (.int x4), .val (.int (Nat.toInt32 N)), .val (.int (Nat.toInt32 f)), .val (.int g), .val (.ref b1), .val (.ref b9), .unset] []))
  refine zq_go (fun _ kq => XS.aload X14.here hx rfl (hb hby at_138) rfl rfl kq) ?_
  show zq_Go p e below s _ _ _ (T14.setTop (mkF m 140 #[.val (.long x0), .second, .val (.long x1), .second, .val (.long x2), .second, .val (.long x3), .second, .val (.int x4), .val (.int (Nat.toInt32 N)), .val (.int (Nat.toInt32 f)), .val (.int g), .val (.ref b1), .val (.ref b9), .unset] [(.ref b9)]))
  refine zq_go (fun _ kq => XS.iconst X14.here hx rfl (hb hby at_140) kq) ?_
  show zq_Go p e below s _ _ _ (T14.setTop (mkF m 141 #[.val (.long x0), .second, .val (.long x1), .second, .val (.long x2), .second, .val (.long x3), .second, .val (.int x4), .val (.int (Nat.toInt32 N)), .val (.int (Nat.toInt32 f)), .val (.int g), .val (.ref b1), .val (.ref b9), .unset] [(.int (5 : Int32)), (.ref b9)]))
  refine zq_go (fun _ kq => XS.iload X14.here hx rfl (hb hby at_141) rfl kq) ?_
  show zq_Go p e below s _ _ _ (T14.setTop (mkF m 143 #[.val (.long x0), .second, .val (.long x1), .second, .val (.long x2), .second, .val (.long x3), .second, .val (.int x4), .val (.int (Nat.toInt32 N)), .val (.int (Nat.toInt32 f)), .val (.int g), .val (.ref b1), .val (.ref b9), .unset] [(.int g), (.int (5 : Int32)), (.ref b9)]))
  obtain ⟨T15, h15, X15, e15, W15, A_b9, st15⟩ := zq_stC X14 hx hZ e14 A_b9 (j := (5 : Int32)) (i := 5) (by decide) (by decide) (by decide) (g := (mkF m 143 #[.val (.long x0), .second, .val (.long x1), .second, .val (.long x2), .second, .val (.long x3), .second, .val (.int x4), .val (.int (Nat.toInt32 N)), .val (.int (Nat.toInt32 f)), .val (.int g), .val (.ref b1), .val (.ref b9), .unset] [(.int g), (.int (5 : Int32)), (.ref b9)])) rfl rfl (hb hby at_143)
  refine zq_go st15 ?_
  have A_b1 := A_b1.other W15 ne_b1_b9
  have ZS := Nat.le_trans ZS (Keep.of_wr W15).1
  have A_b9 : zq_A Z h15 b9 .char 12 (fun k => .int (([g, g, g, g, g, g.toUInt32.toUInt16.toUInt32.toInt32, (0 : Int32), (0 : Int32), (0 : Int32), (0 : Int32), (0 : Int32), (0 : Int32)] : List Int32).getD k 0)) := A_b9.congr (fun j hj => by match j, hj with | 0, _ => rfl | 1, _ => rfl | 2, _ => rfl | 3, _ => rfl | 4, _ => rfl | 5, _ => rfl | 6, _ => rfl | 7, _ => rfl | 8, _ => rfl | 9, _ => rfl | 10, _ => rfl | 11, _ => rfl | (j + 12), hj => exact absurd hj (by omega))
  obtain ⟨L15, X15, NF⟩ : ∃ L : List Loc, Stand p l e room_1 s m #[(.long x0), (.long x1), (.long x2), (.long x3), (.int x4)] below meth c T15 L 2 19 ∧ Fr h0.size L := ⟨_, X15, Fr.snoc X15 NF g_b9⟩
  rw [zq_gg hg] at A_b9
  show zq_Go p e below s _ _ _ (T15.setTop (mkF m 144 #[.val (.long x0), .second, .val (.long x1), .second, .val (.long x2), .second, .val (.long x3), .second, .val (.int x4), .val (.int (Nat.toInt32 N)), .val (.int (Nat.toInt32 f)), .val (.int g), .val (.ref b1), .val (.ref b9), .unset] []))
  refine zq_go (fun _ kq => XS.aload X15.here hx rfl (hb hby at_144) rfl rfl kq) ?_
  show zq_Go p e below s _ _ _ (T15.setTop (mkF m 146 #[.val (.long x0), .second, .val (.long x1), .second, .val (.long x2), .second, .val (.long x3), .second, .val (.int x4), .val (.int (Nat.toInt32 N)), .val (.int (Nat.toInt32 f)), .val (.int g), .val (.ref b1), .val (.ref b9), .unset] [(.ref b9)]))
  refine zq_go (fun _ kq => XS.bipush X15.here hx rfl (hb hby at_146) kq) ?_
  show zq_Go p e below s _ _ _ (T15.setTop (mkF m 148 #[.val (.long x0), .second, .val (.long x1), .second, .val (.long x2), .second, .val (.long x3), .second, .val (.int x4), .val (.int (Nat.toInt32 N)), .val (.int (Nat.toInt32 f)), .val (.int g), .val (.ref b1), .val (.ref b9), .unset] [(.int (6 : Int32)), (.ref b9)]))
  refine zq_go (fun _ kq => XS.iload X15.here hx rfl (hb hby at_148) rfl kq) ?_
  show zq_Go p e below s _ _ _ (T15.setTop (mkF m 150 #[.val (.long x0), .second, .val (.long x1), .second, .val (.long x2), .second, .val (.long x3), .second, .val (.int x4), .val (.int (Nat.toInt32 N)), .val (.int (Nat.toInt32 f)), .val (.int g), .val (.ref b1), .val (.ref b9), .unset] [(.int g), (.int (6 : Int32)), (.ref b9)]))
  obtain ⟨T16, h16, X16, e16, W16, A_b9, st16⟩ := zq_stC X15 hx hZ e15 A_b9 (j := (6 : Int32)) (i := 6) (by decide) (by decide) (by decide) (g := (mkF m 150 #[.val (.long x0), .second, .val (.long x1), .second, .val (.long x2), .second, .val (.long x3), .second, .val (.int x4), .val (.int (Nat.toInt32 N)), .val (.int (Nat.toInt32 f)), .val (.int g), .val (.ref b1), .val (.ref b9), .unset] [(.int g), (.int (6 : Int32)), (.ref b9)])) rfl rfl (hb hby at_150)
  refine zq_go st16 ?_
  have A_b1 := A_b1.other W16 ne_b1_b9
  have ZS := Nat.le_trans ZS (Keep.of_wr W16).1
  have A_b9 : zq_A Z h16 b9 .char 12 (fun k => .int (([g, g, g, g, g, g, g.toUInt32.toUInt16.toUInt32.toInt32, (0 : Int32), (0 : Int32), (0 : Int32), (0 : Int32), (0 : Int32)] : List Int32).getD k 0)) := A_b9.congr (fun j hj => by match j, hj with | 0, _ => rfl | 1, _ => rfl | 2, _ => rfl | 3, _ => rfl | 4, _ => rfl | 5, _ => rfl | 6, _ => rfl | 7, _ => rfl | 8, _ => rfl | 9, _ => rfl | 10, _ => rfl | 11, _ => rfl | (j + 12), hj => exact absurd hj (by omega))
  obtain ⟨L16, X16, NF⟩ : ∃ L : List Loc, Stand p l e room_1 s m #[(.long x0), (.long x1), (.long x2), (.long x3), (.int x4)] below meth c T16 L 2 19 ∧ Fr h0.size L := ⟨_, X16, Fr.snoc X16 NF g_b9⟩
  rw [zq_gg hg] at A_b9
  show zq_Go p e below s _ _ _ (T16.setTop (mkF m 151 #[.val (.long x0), .second, .val (.long x1), .second, .val (.long x2), .second, .val (.long x3), .second, .val (.int x4), .val (.int (Nat.toInt32 N)), .val (.int (Nat.toInt32 f)), .val (.int g), .val (.ref b1), .val (.ref b9), .unset] []))
  refine zq_go (fun _ kq => XS.aload X16.here hx rfl (hb hby at_151) rfl rfl kq) ?_
  show zq_Go p e below s _ _ _ (T16.setTop (mkF m 153 #[.val (.long x0), .second, .val (.long x1), .second, .val (.long x2), .second, .val (.long x3), .second, .val (.int x4), .val (.int (Nat.toInt32 N)), .val (.int (Nat.toInt32 f)), .val (.int g), .val (.ref b1), .val (.ref b9), .unset] [(.ref b9)]))
  refine zq_go (fun _ kq => XS.bipush X16.here hx rfl (hb hby at_153) kq) ?_
  show zq_Go p e below s _ _ _ (T16.setTop (mkF m 155 #[.val (.long x0), .second, .val (.long x1), .second, .val (.long x2), .second, .val (.long x3), .second, .val (.int x4), .val (.int (Nat.toInt32 N)), .val (.int (Nat.toInt32 f)), .val (.int g), .val (.ref b1), .val (.ref b9), .unset] [(.int (7 : Int32)), (.ref b9)]))
  refine zq_go (fun _ kq => XS.iload X16.here hx rfl (hb hby at_155) rfl kq) ?_
  show zq_Go p e below s _ _ _ (T16.setTop (mkF m 157 #[.val (.long x0), .second, .val (.long x1), .second, .val (.long x2), .second, .val (.long x3), .second, .val (.int x4), .val (.int (Nat.toInt32 N)), .val (.int (Nat.toInt32 f)), .val (.int g), .val (.ref b1), .val (.ref b9), .unset] [(.int g), (.int (7 : Int32)), (.ref b9)]))
  obtain ⟨T17, h17, X17, e17, W17, A_b9, st17⟩ := zq_stC X16 hx hZ e16 A_b9 (j := (7 : Int32)) (i := 7) (by decide) (by decide) (by decide) (g := (mkF m 157 #[.val (.long x0), .second, .val (.long x1), .second, .val (.long x2), .second, .val (.long x3), .second, .val (.int x4), .val (.int (Nat.toInt32 N)), .val (.int (Nat.toInt32 f)), .val (.int g), .val (.ref b1), .val (.ref b9), .unset] [(.int g), (.int (7 : Int32)), (.ref b9)])) rfl rfl (hb hby at_157)
  refine zq_go st17 ?_
  have A_b1 := A_b1.other W17 ne_b1_b9
  have ZS := Nat.le_trans ZS (Keep.of_wr W17).1
  have A_b9 : zq_A Z h17 b9 .char 12 (fun k => .int (([g, g, g, g, g, g, g, g.toUInt32.toUInt16.toUInt32.toInt32, (0 : Int32), (0 : Int32), (0 : Int32), (0 : Int32)] : List Int32).getD k 0)) := A_b9.congr (fun j hj => by match j, hj with | 0, _ => rfl | 1, _ => rfl | 2, _ => rfl | 3, _ => rfl | 4, _ => rfl | 5, _ => rfl | 6, _ => rfl | 7, _ => rfl | 8, _ => rfl | 9, _ => rfl | 10, _ => rfl | 11, _ => rfl | (j + 12), hj => exact absurd hj (by omega))
  obtain ⟨L17, X17, NF⟩ : ∃ L : List Loc, Stand p l e room_1 s m #[(.long x0), (.long x1), (.long x2), (.long x3), (.int x4)] below meth c T17 L 2 19 ∧ Fr h0.size L := ⟨_, X17, Fr.snoc X17 NF g_b9⟩
  rw [zq_gg hg] at A_b9
  show zq_Go p e below s _ _ _ (T17.setTop (mkF m 158 #[.val (.long x0), .second, .val (.long x1), .second, .val (.long x2), .second, .val (.long x3), .second, .val (.int x4), .val (.int (Nat.toInt32 N)), .val (.int (Nat.toInt32 f)), .val (.int g), .val (.ref b1), .val (.ref b9), .unset] []))
  refine zq_go (fun _ kq => XS.aload X17.here hx rfl (hb hby at_158) rfl rfl kq) ?_
  show zq_Go p e below s _ _ _ (T17.setTop (mkF m 160 #[.val (.long x0), .second, .val (.long x1), .second, .val (.long x2), .second, .val (.long x3), .second, .val (.int x4), .val (.int (Nat.toInt32 N)), .val (.int (Nat.toInt32 f)), .val (.int g), .val (.ref b1), .val (.ref b9), .unset] [(.ref b9)]))
  refine zq_go (fun _ kq => XS.bipush X17.here hx rfl (hb hby at_160) kq) ?_
  show zq_Go p e below s _ _ _ (T17.setTop (mkF m 162 #[.val (.long x0), .second, .val (.long x1), .second, .val (.long x2), .second, .val (.long x3), .second, .val (.int x4), .val (.int (Nat.toInt32 N)), .val (.int (Nat.toInt32 f)), .val (.int g), .val (.ref b1), .val (.ref b9), .unset] [(.int (8 : Int32)), (.ref b9)]))
  refine zq_go (fun _ kq => XS.iload X17.here hx rfl (hb hby at_162) rfl kq) ?_
  show zq_Go p e below s _ _ _ (T17.setTop (mkF m 164 #[.val (.long x0), .second, .val (.long x1), .second, .val (.long x2), .second, .val (.long x3), .second, .val (.int x4), .val (.int (Nat.toInt32 N)), .val (.int (Nat.toInt32 f)), .val (.int g), .val (.ref b1), .val (.ref b9), .unset] [(.int g), (.int (8 : Int32)), (.ref b9)]))
  obtain ⟨T18, h18, X18, e18, W18, A_b9, st18⟩ := zq_stC X17 hx hZ e17 A_b9 (j := (8 : Int32)) (i := 8) (by decide) (by decide) (by decide) (g := (mkF m 164 #[.val (.long x0), .second, .val (.long x1), .second, .val (.long x2), .second, .val (.long x3), .second, .val (.int x4), .val (.int (Nat.toInt32 N)), .val (.int (Nat.toInt32 f)), .val (.int g), .val (.ref b1), .val (.ref b9), .unset] [(.int g), (.int (8 : Int32)), (.ref b9)])) rfl rfl (hb hby at_164)
  refine zq_go st18 ?_
  have A_b1 := A_b1.other W18 ne_b1_b9
  have ZS := Nat.le_trans ZS (Keep.of_wr W18).1
  have A_b9 : zq_A Z h18 b9 .char 12 (fun k => .int (([g, g, g, g, g, g, g, g, g.toUInt32.toUInt16.toUInt32.toInt32, (0 : Int32), (0 : Int32), (0 : Int32)] : List Int32).getD k 0)) := A_b9.congr (fun j hj => by match j, hj with | 0, _ => rfl | 1, _ => rfl | 2, _ => rfl | 3, _ => rfl | 4, _ => rfl | 5, _ => rfl | 6, _ => rfl | 7, _ => rfl | 8, _ => rfl | 9, _ => rfl | 10, _ => rfl | 11, _ => rfl | (j + 12), hj => exact absurd hj (by omega))
  obtain ⟨L18, X18, NF⟩ : ∃ L : List Loc, Stand p l e room_1 s m #[(.long x0), (.long x1), (.long x2), (.long x3), (.int x4)] below meth c T18 L 2 19 ∧ Fr h0.size L := ⟨_, X18, Fr.snoc X18 NF g_b9⟩
  rw [zq_gg hg] at A_b9
  show zq_Go p e below s _ _ _ (T18.setTop (mkF m 165 #[.val (.long x0), .second, .val (.long x1), .second, .val (.long x2), .second, .val (.long x3), .second, .val (.int x4), .val (.int (Nat.toInt32 N)), .val (.int (Nat.toInt32 f)), .val (.int g), .val (.ref b1), .val (.ref b9), .unset] []))
  refine zq_go (fun _ kq => XS.aload X18.here hx rfl (hb hby at_165) rfl rfl kq) ?_
  show zq_Go p e below s _ _ _ (T18.setTop (mkF m 167 #[.val (.long x0), .second, .val (.long x1), .second, .val (.long x2), .second, .val (.long x3), .second, .val (.int x4), .val (.int (Nat.toInt32 N)), .val (.int (Nat.toInt32 f)), .val (.int g), .val (.ref b1), .val (.ref b9), .unset] [(.ref b9)]))
  refine zq_go (fun _ kq => XS.bipush X18.here hx rfl (hb hby at_167) kq) ?_
  show zq_Go p e below s _ _ _ (T18.setTop (mkF m 169 #[.val (.long x0), .second, .val (.long x1), .second, .val (.long x2), .second, .val (.long x3), .second, .val (.int x4), .val (.int (Nat.toInt32 N)), .val (.int (Nat.toInt32 f)), .val (.int g), .val (.ref b1), .val (.ref b9), .unset] [(.int (9 : Int32)), (.ref b9)]))
  refine zq_go (fun _ kq => XS.iload X18.here hx rfl (hb hby at_169) rfl kq) ?_
  show zq_Go p e below s _ _ _ (T18.setTop (mkF m 171 #[.val (.long x0), .second, .val (.long x1), .second, .val (.long x2), .second, .val (.long x3), .second, .val (.int x4), .val (.int (Nat.toInt32 N)), .val (.int (Nat.toInt32 f)), .val (.int g), .val (.ref b1), .val (.ref b9), .unset] [(.int g), (.int (9 : Int32)), (.ref b9)]))
  obtain ⟨T19, h19, X19, e19, W19, A_b9, st19⟩ := zq_stC X18 hx hZ e18 A_b9 (j := (9 : Int32)) (i := 9) (by decide) (by decide) (by decide) (g := (mkF m 171 #[.val (.long x0), .second, .val (.long x1), .second, .val (.long x2), .second, .val (.long x3), .second, .val (.int x4), .val (.int (Nat.toInt32 N)), .val (.int (Nat.toInt32 f)), .val (.int g), .val (.ref b1), .val (.ref b9), .unset] [(.int g), (.int (9 : Int32)), (.ref b9)])) rfl rfl (hb hby at_171)
  refine zq_go st19 ?_
  have A_b1 := A_b1.other W19 ne_b1_b9
  have ZS := Nat.le_trans ZS (Keep.of_wr W19).1
  have A_b9 : zq_A Z h19 b9 .char 12 (fun k => .int (([g, g, g, g, g, g, g, g, g, g.toUInt32.toUInt16.toUInt32.toInt32, (0 : Int32), (0 : Int32)] : List Int32).getD k 0)) := A_b9.congr (fun j hj => by match j, hj with | 0, _ => rfl | 1, _ => rfl | 2, _ => rfl | 3, _ => rfl | 4, _ => rfl | 5, _ => rfl | 6, _ => rfl | 7, _ => rfl | 8, _ => rfl | 9, _ => rfl | 10, _ => rfl | 11, _ => rfl | (j + 12), hj => exact absurd hj (by omega))
  obtain ⟨L19, X19, NF⟩ : ∃ L : List Loc, Stand p l e room_1 s m #[(.long x0), (.long x1), (.long x2), (.long x3), (.int x4)] below meth c T19 L 2 19 ∧ Fr h0.size L := ⟨_, X19, Fr.snoc X19 NF g_b9⟩
  rw [zq_gg hg] at A_b9
  show zq_Go p e below s _ _ _ (T19.setTop (mkF m 172 #[.val (.long x0), .second, .val (.long x1), .second, .val (.long x2), .second, .val (.long x3), .second, .val (.int x4), .val (.int (Nat.toInt32 N)), .val (.int (Nat.toInt32 f)), .val (.int g), .val (.ref b1), .val (.ref b9), .unset] []))
  refine zq_go (fun _ kq => XS.aload X19.here hx rfl (hb hby at_172) rfl rfl kq) ?_
  show zq_Go p e below s _ _ _ (T19.setTop (mkF m 174 #[.val (.long x0), .second, .val (.long x1), .second, .val (.long x2), .second, .val (.long x3), .second, .val (.int x4), .val (.int (Nat.toInt32 N)), .val (.int (Nat.toInt32 f)), .val (.int g), .val (.ref b1), .val (.ref b9), .unset] [(.ref b9)]))
  refine zq_go (fun _ kq => XS.bipush X19.here hx rfl (hb hby at_174) kq) ?_
  show zq_Go p e below s _ _ _ (T19.setTop (mkF m 176 #[.val (.long x0), .second, .val (.long x1), .second, .val (.long x2), .second, .val (.long x3), .second, .val (.int x4), .val (.int (Nat.toInt32 N)), .val (.int (Nat.toInt32 f)), .val (.int g), .val (.ref b1), .val (.ref b9), .unset] [(.int (10 : Int32)), (.ref b9)]))
  refine zq_go (fun _ kq => XS.iload X19.here hx rfl (hb hby at_176) rfl kq) ?_
  show zq_Go p e below s _ _ _ (T19.setTop (mkF m 178 #[.val (.long x0), .second, .val (.long x1), .second, .val (.long x2), .second, .val (.long x3), .second, .val (.int x4), .val (.int (Nat.toInt32 N)), .val (.int (Nat.toInt32 f)), .val (.int g), .val (.ref b1), .val (.ref b9), .unset] [(.int g), (.int (10 : Int32)), (.ref b9)]))
  obtain ⟨T20, h20, X20, e20, W20, A_b9, st20⟩ := zq_stC X19 hx hZ e19 A_b9 (j := (10 : Int32)) (i := 10) (by decide) (by decide) (by decide) (g := (mkF m 178 #[.val (.long x0), .second, .val (.long x1), .second, .val (.long x2), .second, .val (.long x3), .second, .val (.int x4), .val (.int (Nat.toInt32 N)), .val (.int (Nat.toInt32 f)), .val (.int g), .val (.ref b1), .val (.ref b9), .unset] [(.int g), (.int (10 : Int32)), (.ref b9)])) rfl rfl (hb hby at_178)
  refine zq_go st20 ?_
  have A_b1 := A_b1.other W20 ne_b1_b9
  have ZS := Nat.le_trans ZS (Keep.of_wr W20).1
  have A_b9 : zq_A Z h20 b9 .char 12 (fun k => .int (([g, g, g, g, g, g, g, g, g, g, g.toUInt32.toUInt16.toUInt32.toInt32, (0 : Int32)] : List Int32).getD k 0)) := A_b9.congr (fun j hj => by match j, hj with | 0, _ => rfl | 1, _ => rfl | 2, _ => rfl | 3, _ => rfl | 4, _ => rfl | 5, _ => rfl | 6, _ => rfl | 7, _ => rfl | 8, _ => rfl | 9, _ => rfl | 10, _ => rfl | 11, _ => rfl | (j + 12), hj => exact absurd hj (by omega))
  obtain ⟨L20, X20, NF⟩ : ∃ L : List Loc, Stand p l e room_1 s m #[(.long x0), (.long x1), (.long x2), (.long x3), (.int x4)] below meth c T20 L 2 19 ∧ Fr h0.size L := ⟨_, X20, Fr.snoc X20 NF g_b9⟩
  rw [zq_gg hg] at A_b9
  show zq_Go p e below s _ _ _ (T20.setTop (mkF m 179 #[.val (.long x0), .second, .val (.long x1), .second, .val (.long x2), .second, .val (.long x3), .second, .val (.int x4), .val (.int (Nat.toInt32 N)), .val (.int (Nat.toInt32 f)), .val (.int g), .val (.ref b1), .val (.ref b9), .unset] []))
  refine zq_go (fun _ kq => XS.aload X20.here hx rfl (hb hby at_179) rfl rfl kq) ?_
  show zq_Go p e below s _ _ _ (T20.setTop (mkF m 181 #[.val (.long x0), .second, .val (.long x1), .second, .val (.long x2), .second, .val (.long x3), .second, .val (.int x4), .val (.int (Nat.toInt32 N)), .val (.int (Nat.toInt32 f)), .val (.int g), .val (.ref b1), .val (.ref b9), .unset] [(.ref b9)]))
  refine zq_go (fun _ kq => XS.bipush X20.here hx rfl (hb hby at_181) kq) ?_
  show zq_Go p e below s _ _ _ (T20.setTop (mkF m 183 #[.val (.long x0), .second, .val (.long x1), .second, .val (.long x2), .second, .val (.long x3), .second, .val (.int x4), .val (.int (Nat.toInt32 N)), .val (.int (Nat.toInt32 f)), .val (.int g), .val (.ref b1), .val (.ref b9), .unset] [(.int (11 : Int32)), (.ref b9)]))
  refine zq_go (fun _ kq => XS.iload X20.here hx rfl (hb hby at_183) rfl kq) ?_
  show zq_Go p e below s _ _ _ (T20.setTop (mkF m 185 #[.val (.long x0), .second, .val (.long x1), .second, .val (.long x2), .second, .val (.long x3), .second, .val (.int x4), .val (.int (Nat.toInt32 N)), .val (.int (Nat.toInt32 f)), .val (.int g), .val (.ref b1), .val (.ref b9), .unset] [(.int g), (.int (11 : Int32)), (.ref b9)]))
  obtain ⟨T21, h21, X21, e21, W21, A_b9, st21⟩ := zq_stC X20 hx hZ e20 A_b9 (j := (11 : Int32)) (i := 11) (by decide) (by decide) (by decide) (g := (mkF m 185 #[.val (.long x0), .second, .val (.long x1), .second, .val (.long x2), .second, .val (.long x3), .second, .val (.int x4), .val (.int (Nat.toInt32 N)), .val (.int (Nat.toInt32 f)), .val (.int g), .val (.ref b1), .val (.ref b9), .unset] [(.int g), (.int (11 : Int32)), (.ref b9)])) rfl rfl (hb hby at_185)
  refine zq_go st21 ?_
  have A_b1 := A_b1.other W21 ne_b1_b9
  have ZS := Nat.le_trans ZS (Keep.of_wr W21).1
  have A_b9 : zq_A Z h21 b9 .char 12 (fun k => .int (([g, g, g, g, g, g, g, g, g, g, g, g.toUInt32.toUInt16.toUInt32.toInt32] : List Int32).getD k 0)) := A_b9.congr (fun j hj => by match j, hj with | 0, _ => rfl | 1, _ => rfl | 2, _ => rfl | 3, _ => rfl | 4, _ => rfl | 5, _ => rfl | 6, _ => rfl | 7, _ => rfl | 8, _ => rfl | 9, _ => rfl | 10, _ => rfl | 11, _ => rfl | (j + 12), hj => exact absurd hj (by omega))
  obtain ⟨L21, X21, NF⟩ : ∃ L : List Loc, Stand p l e room_1 s m #[(.long x0), (.long x1), (.long x2), (.long x3), (.int x4)] below meth c T21 L 2 19 ∧ Fr h0.size L := ⟨_, X21, Fr.snoc X21 NF g_b9⟩
  rw [zq_gg hg] at A_b9
  have A_b9 : zq_A Z h21 b9 .char 12 (fun j => .int (zq_ar (fun k => ([c0, c1, c2, c3, c4, c5, c6] : List Int32).getD k 0) g f (min 0 N) j)) := A_b9.congr (fun j hj => by rw [show zq_ar (fun k => ([c0, c1, c2, c3, c4, c5, c6] : List Int32).getD k 0) g f (min 0 N) j = g from if_neg (by omega)]; match j, hj with | 0, _ => rfl | 1, _ => rfl | 2, _ => rfl | 3, _ => rfl | 4, _ => rfl | 5, _ => rfl | 6, _ => rfl | 7, _ => rfl | 8, _ => rfl | 9, _ => rfl | 10, _ => rfl | 11, _ => rfl | (j + 12), hj => exact absurd hj (by omega))
  have hcc : ∀ i, i < 7 → zq_chr ((fun k => ([c0, c1, c2, c3, c4, c5, c6] : List Int32).getD k 0) i) := fun i hi => by
    match i, hi with
    | 0, _ => exact hc0
    | 1, _ => exact hc1
    | 2, _ => exact hc2
    | 3, _ => exact hc3
    | 4, _ => exact hc4
    | 5, _ => exact hc5
    | 6, _ => exact hc6
    | (i + 7), hi => exact absurd hi (by omega)
  have J201 : ∀ (Tq0 : State) (hq0 : Heap) (Lq0 : List Loc), Stand p l e room_1 s m #[(.long x0), (.long x1), (.long x2), (.long x3), (.int x4)] below meth c Tq0 Lq0 2 19 → Tq0.heap = hq0 → Fr h0.size Lq0 → h0.size ≤ hq0.size → zq_A Z hq0 b9 .char 12 (fun j => .int (zq_ar (fun k => ([c0, c1, c2, c3, c4, c5, c6] : List Int32).getD k 0) g f (min 1 N) j)) → zq_A Z hq0 b1 .char 7 (fun k => .int (([c0, c1, c2, c3, c4, c5, c6] : List Int32).getD k 0)) → zq_Go p e below s (zq_one h0.size) room_1.cells room_1.slots (Tq0.setTop (mkF m 201 #[.val (.long x0), .second, .val (.long x1), .second, .val (.long x2), .second, .val (.long x3), .second, .val (.int x4), .val (.int (Nat.toInt32 N)), .val (.int (Nat.toInt32 f)), .val (.int g), .val (.ref b1), .val (.ref b9), .unset] [])) := by
    intro Tq0 hq0 Lq0 Xq0 eq0 NF ZS A_b9 A_b1
    have J218 : ∀ (Tq1 : State) (hq1 : Heap) (Lq1 : List Loc), Stand p l e room_1 s m #[(.long x0), (.long x1), (.long x2), (.long x3), (.int x4)] below meth c Tq1 Lq1 2 19 → Tq1.heap = hq1 → Fr h0.size Lq1 → h0.size ≤ hq1.size → zq_A Z hq1 b9 .char 12 (fun j => .int (zq_ar (fun k => ([c0, c1, c2, c3, c4, c5, c6] : List Int32).getD k 0) g f (min 2 N) j)) → zq_A Z hq1 b1 .char 7 (fun k => .int (([c0, c1, c2, c3, c4, c5, c6] : List Int32).getD k 0)) → zq_Go p e below s (zq_one h0.size) room_1.cells room_1.slots (Tq1.setTop (mkF m 218 #[.val (.long x0), .second, .val (.long x1), .second, .val (.long x2), .second, .val (.long x3), .second, .val (.int x4), .val (.int (Nat.toInt32 N)), .val (.int (Nat.toInt32 f)), .val (.int g), .val (.ref b1), .val (.ref b9), .unset] [])) := by
      intro Tq1 hq1 Lq1 Xq1 eq1 NF ZS A_b9 A_b1
      have J235 : ∀ (Tq2 : State) (hq2 : Heap) (Lq2 : List Loc), Stand p l e room_1 s m #[(.long x0), (.long x1), (.long x2), (.long x3), (.int x4)] below meth c Tq2 Lq2 2 19 → Tq2.heap = hq2 → Fr h0.size Lq2 → h0.size ≤ hq2.size → zq_A Z hq2 b9 .char 12 (fun j => .int (zq_ar (fun k => ([c0, c1, c2, c3, c4, c5, c6] : List Int32).getD k 0) g f (min 3 N) j)) → zq_A Z hq2 b1 .char 7 (fun k => .int (([c0, c1, c2, c3, c4, c5, c6] : List Int32).getD k 0)) → zq_Go p e below s (zq_one h0.size) room_1.cells room_1.slots (Tq2.setTop (mkF m 235 #[.val (.long x0), .second, .val (.long x1), .second, .val (.long x2), .second, .val (.long x3), .second, .val (.int x4), .val (.int (Nat.toInt32 N)), .val (.int (Nat.toInt32 f)), .val (.int g), .val (.ref b1), .val (.ref b9), .unset] [])) := by
        intro Tq2 hq2 Lq2 Xq2 eq2 NF ZS A_b9 A_b1
        have J252 : ∀ (Tq3 : State) (hq3 : Heap) (Lq3 : List Loc), Stand p l e room_1 s m #[(.long x0), (.long x1), (.long x2), (.long x3), (.int x4)] below meth c Tq3 Lq3 2 19 → Tq3.heap = hq3 → Fr h0.size Lq3 → h0.size ≤ hq3.size → zq_A Z hq3 b9 .char 12 (fun j => .int (zq_ar (fun k => ([c0, c1, c2, c3, c4, c5, c6] : List Int32).getD k 0) g f (min 4 N) j)) → zq_A Z hq3 b1 .char 7 (fun k => .int (([c0, c1, c2, c3, c4, c5, c6] : List Int32).getD k 0)) → zq_Go p e below s (zq_one h0.size) room_1.cells room_1.slots (Tq3.setTop (mkF m 252 #[.val (.long x0), .second, .val (.long x1), .second, .val (.long x2), .second, .val (.long x3), .second, .val (.int x4), .val (.int (Nat.toInt32 N)), .val (.int (Nat.toInt32 f)), .val (.int g), .val (.ref b1), .val (.ref b9), .unset] [])) := by
          intro Tq3 hq3 Lq3 Xq3 eq3 NF ZS A_b9 A_b1
          have J269 : ∀ (Tq4 : State) (hq4 : Heap) (Lq4 : List Loc), Stand p l e room_1 s m #[(.long x0), (.long x1), (.long x2), (.long x3), (.int x4)] below meth c Tq4 Lq4 2 19 → Tq4.heap = hq4 → Fr h0.size Lq4 → h0.size ≤ hq4.size → zq_A Z hq4 b9 .char 12 (fun j => .int (zq_ar (fun k => ([c0, c1, c2, c3, c4, c5, c6] : List Int32).getD k 0) g f (min 5 N) j)) → zq_A Z hq4 b1 .char 7 (fun k => .int (([c0, c1, c2, c3, c4, c5, c6] : List Int32).getD k 0)) → zq_Go p e below s (zq_one h0.size) room_1.cells room_1.slots (Tq4.setTop (mkF m 269 #[.val (.long x0), .second, .val (.long x1), .second, .val (.long x2), .second, .val (.long x3), .second, .val (.int x4), .val (.int (Nat.toInt32 N)), .val (.int (Nat.toInt32 f)), .val (.int g), .val (.ref b1), .val (.ref b9), .unset] [])) := by
            intro Tq4 hq4 Lq4 Xq4 eq4 NF ZS A_b9 A_b1
            have J286 : ∀ (Tq5 : State) (hq5 : Heap) (Lq5 : List Loc), Stand p l e room_1 s m #[(.long x0), (.long x1), (.long x2), (.long x3), (.int x4)] below meth c Tq5 Lq5 2 19 → Tq5.heap = hq5 → Fr h0.size Lq5 → h0.size ≤ hq5.size → zq_A Z hq5 b9 .char 12 (fun j => .int (zq_ar (fun k => ([c0, c1, c2, c3, c4, c5, c6] : List Int32).getD k 0) g f (min 6 N) j)) → zq_A Z hq5 b1 .char 7 (fun k => .int (([c0, c1, c2, c3, c4, c5, c6] : List Int32).getD k 0)) → zq_Go p e below s (zq_one h0.size) room_1.cells room_1.slots (Tq5.setTop (mkF m 286 #[.val (.long x0), .second, .val (.long x1), .second, .val (.long x2), .second, .val (.long x3), .second, .val (.int x4), .val (.int (Nat.toInt32 N)), .val (.int (Nat.toInt32 f)), .val (.int g), .val (.ref b1), .val (.ref b9), .unset] [])) := by
              intro Tq5 hq5 Lq5 Xq5 eq5 NF ZS A_b9 A_b1
              have J306 : ∀ (Tq6 : State) (hq6 : Heap) (Lq6 : List Loc), Stand p l e room_1 s m #[(.long x0), (.long x1), (.long x2), (.long x3), (.int x4)] below meth c Tq6 Lq6 2 19 → Tq6.heap = hq6 → Fr h0.size Lq6 → h0.size ≤ hq6.size → zq_A Z hq6 b9 .char 12 (fun j => .int (zq_ar (fun k => ([c0, c1, c2, c3, c4, c5, c6] : List Int32).getD k 0) g f (min 7 N) j)) → zq_A Z hq6 b1 .char 7 (fun k => .int (([c0, c1, c2, c3, c4, c5, c6] : List Int32).getD k 0)) → zq_Go p e below s (zq_one h0.size) room_1.cells room_1.slots (Tq6.setTop (mkF m 306 #[.val (.long x0), .second, .val (.long x1), .second, .val (.long x2), .second, .val (.long x3), .second, .val (.int x4), .val (.int (Nat.toInt32 N)), .val (.int (Nat.toInt32 f)), .val (.int g), .val (.ref b1), .val (.ref b9), .unset] [])) := by
                intro Tq6 hq6 Lq6 Xq6 eq6 NF ZS A_b9 A_b1
                have A_b9 : zq_A Z hq6 b9 .char 12 (fun j => .int (zq_ar (fun k => ([c0, c1, c2, c3, c4, c5, c6] : List Int32).getD k 0) g f N j)) := by rw [show min 7 N = N by omega] at A_b9; exact A_b9
                show zq_Go p e below s _ _ _ (Tq6.setTop (mkF m 306 #[.val (.long x0), .second, .val (.long x1), .second, .val (.long x2), .second, .val (.long x3), .second, .val (.int x4), .val (.int (Nat.toInt32 N)), .val (.int (Nat.toInt32 f)), .val (.int g), .val (.ref b1), .val (.ref b9), .unset] []))
                obtain ⟨T29, h29, b29, gb29, X29, e29, E29, E_b29, D29, st29⟩ := zq_newO Xq6 hx hZ hown (hw _ (List.mem_of_getElem? (i := 1) rfl)) (hw _ (List.mem_of_getElem? (i := 2) rfl)) (hw _ (List.mem_of_getElem? (i := 3) rfl)) eq6 (g := (mkF m 306 #[.val (.long x0), .second, .val (.long x1), .second, .val (.long x2), .second, .val (.long x3), .second, .val (.int x4), .val (.int (Nat.toInt32 N)), .val (.int (Nat.toInt32 f)), .val (.int g), .val (.ref b1), .val (.ref b9), .unset] [])) rfl (hb hby at_306) (by decide) (by decide)
                have ne_b9_b29 : b9 ≠ b29 := zq_ne A_b9.lt gb29
                have ne_b29_b9 : b29 ≠ b9 := zq_ne' A_b9.lt gb29
                have ne_b1_b29 : b1 ≠ b29 := zq_ne A_b1.lt gb29
                have ne_b29_b1 : b29 ≠ b1 := zq_ne' A_b1.lt gb29
                have g_b29 : h0.size ≤ b29 := by rw [gb29]; exact ZS
                have A_b9 := A_b9.ext E29
                have A_b1 := A_b1.ext E29
                have ZS := Nat.le_trans ZS E29.1
                have X29 : Stand p l e room_1 s m #[(.long x0), (.long x1), (.long x2), (.long x3), (.int x4)] below meth c T29 Lq6 3 21 := X29
                have F_key0_b29 : Fld Z h29 b29 "com/example/clearline/clearline/formats/TableHash" "key0" "J" (.long (0 : Int64)) := D29 (Or.inr (hw _ (List.mem_of_getElem? (i := 11) rfl))) (ty := .long) (by decide)
                have F_key1_b29 : Fld Z h29 b29 "com/example/clearline/clearline/formats/TableHash" "key1" "J" (.long (0 : Int64)) := D29 (Or.inr (hw _ (List.mem_of_getElem? (i := 13) rfl))) (ty := .long) (by decide)
                refine zq_go st29 ?_
                show zq_Go p e below s _ _ _ (T29.setTop (mkF m 309 #[.val (.long x0), .second, .val (.long x1), .second, .val (.long x2), .second, .val (.long x3), .second, .val (.int x4), .val (.int (Nat.toInt32 N)), .val (.int (Nat.toInt32 f)), .val (.int g), .val (.ref b1), .val (.ref b9), .unset] [(.ref b29)]))
                refine zq_go (fun _ kq => XS.dup X29.here hx rfl (hb hby at_309) rfl rfl kq) ?_
                show zq_Go p e below s _ _ _ (T29.setTop (mkF m 310 #[.val (.long x0), .second, .val (.long x1), .second, .val (.long x2), .second, .val (.long x3), .second, .val (.int x4), .val (.int (Nat.toInt32 N)), .val (.int (Nat.toInt32 f)), .val (.int g), .val (.ref b1), .val (.ref b9), .unset] [(.ref b29), (.ref b29)]))
                refine zq_go (fun _ kq => XS.lloadN X29.here hx rfl (hb hby at_310) rfl kq) ?_
                show zq_Go p e below s _ _ _ (T29.setTop (mkF m 311 #[.val (.long x0), .second, .val (.long x1), .second, .val (.long x2), .second, .val (.long x3), .second, .val (.int x4), .val (.int (Nat.toInt32 N)), .val (.int (Nat.toInt32 f)), .val (.int g), .val (.ref b1), .val (.ref b9), .unset] [(.long x0), (.ref b29), (.ref b29)]))
                refine zq_go (fun _ kq => XS.lloadN X29.here hx rfl (hb hby at_311) rfl kq) ?_
                show zq_Go p e below s _ _ _ (T29.setTop (mkF m 312 #[.val (.long x0), .second, .val (.long x1), .second, .val (.long x2), .second, .val (.long x3), .second, .val (.int x4), .val (.int (Nat.toInt32 N)), .val (.int (Nat.toInt32 f)), .val (.int g), .val (.ref b1), .val (.ref b9), .unset] [(.long x1), (.long x0), (.ref b29), (.ref b29)]))
                obtain ⟨_, T30, L30, X30, ⟨rfl, Nq30, K30, G0_30, G1_30⟩, st30⟩ := zq_callC (W := 1) X29 hx hZ rfl hown (hw _ (List.mem_of_getElem? (i := 4) rfl)) (hw _ (List.mem_of_getElem? (i := 5) rfl)) (hw _ (List.mem_of_getElem? (i := 3) rfl)) (hw _ (List.mem_of_getElem? (i := 6) rfl)) (by decide) (zq_rmTI l Z a0 hw [] b29 x0 x1 h29 h0.size _ _ E_b29 F_key0_b29 F_key1_b29 g_b29) e29 (by decide) (by decide) (by decide) (by decide) (g := (mkF m 312 #[.val (.long x0), .second, .val (.long x1), .second, .val (.long x2), .second, .val (.long x3), .second, .val (.int x4), .val (.int (Nat.toInt32 N)), .val (.int (Nat.toInt32 f)), .val (.int g), .val (.ref b1), .val (.ref b9), .unset] [(.long x1), (.long x0), (.ref b29), (.ref b29)])) rfl (by rw [hml]; rfl) (a := b29) (argsL := [(.long x0), (.long x1)]) (rest := [(.ref b29)]) (lenOf zq_pd7 rfl) rfl (by show 2 * 0 + _ ≤ _; exact Nat.le_of_eq rfl) (hb hby at_312)
                have A_b9 := A_b9.keep K30 (ninS ne_b9_b29 nin0)
                have A_b1 := A_b1.keep K30 (ninS ne_b1_b29 nin0)
                have E_b29 := E_b29.keep K30
                have ZS := Nat.le_trans ZS K30.1
                have F_key0_b29 := G0_30
                have F_key1_b29 := G1_30
                obtain ⟨L30, X30, NF⟩ : ∃ L : List Loc, Stand p l e room_1 s m #[(.long x0), (.long x1), (.long x2), (.long x3), (.int x4)] below meth c T30 L 3 21 ∧ Fr h0.size L := ⟨_, X30, Fr.app NF Nq30⟩
                refine zq_go st30 ?_
                show zq_Go p e below s _ _ _ (T30.setTop (mkF m 315 #[.val (.long x0), .second, .val (.long x1), .second, .val (.long x2), .second, .val (.long x3), .second, .val (.int x4), .val (.int (Nat.toInt32 N)), .val (.int (Nat.toInt32 f)), .val (.int g), .val (.ref b1), .val (.ref b9), .unset] [(.ref b29)]))
                refine zq_go (fun _ kq => XS.aload X30.here hx rfl (hb hby at_315) rfl rfl kq) ?_
                show zq_Go p e below s _ _ _ (T30.setTop (mkF m 317 #[.val (.long x0), .second, .val (.long x1), .second, .val (.long x2), .second, .val (.long x3), .second, .val (.int x4), .val (.int (Nat.toInt32 N)), .val (.int (Nat.toInt32 f)), .val (.int g), .val (.ref b1), .val (.ref b9), .unset] [(.ref b9), (.ref b29)]))
                refine zq_go (fun _ kq => XS.iload X30.here hx rfl (hb hby at_317) rfl kq) ?_
                show zq_Go p e below s _ _ _ (T30.setTop (mkF m 319 #[.val (.long x0), .second, .val (.long x1), .second, .val (.long x2), .second, .val (.long x3), .second, .val (.int x4), .val (.int (Nat.toInt32 N)), .val (.int (Nat.toInt32 f)), .val (.int g), .val (.ref b1), .val (.ref b9), .unset] [(.int (Nat.toInt32 f)), (.ref b9), (.ref b29)]))
                refine zq_go (fun _ kq => XS.iload X30.here hx rfl (hb hby at_319) rfl kq) ?_
                show zq_Go p e below s _ _ _ (T30.setTop (mkF m 321 #[.val (.long x0), .second, .val (.long x1), .second, .val (.long x2), .second, .val (.long x3), .second, .val (.int x4), .val (.int (Nat.toInt32 N)), .val (.int (Nat.toInt32 f)), .val (.int g), .val (.ref b1), .val (.ref b9), .unset] [(.int (Nat.toInt32 f)), (.int (Nat.toInt32 f)), (.ref b9), (.ref b29)]))
                refine zq_go (fun _ kq => XS.iload X30.here hx rfl (hb hby at_321) rfl kq) ?_
                show zq_Go p e below s _ _ _ (T30.setTop (mkF m 323 #[.val (.long x0), .second, .val (.long x1), .second, .val (.long x2), .second, .val (.long x3), .second, .val (.int x4), .val (.int (Nat.toInt32 N)), .val (.int (Nat.toInt32 f)), .val (.int g), .val (.ref b1), .val (.ref b9), .unset] [(.int (Nat.toInt32 N)), (.int (Nat.toInt32 f)), (.int (Nat.toInt32 f)), (.ref b9), (.ref b29)]))
                refine zq_go (fun _ kq => XS.iadd X30.here hx rfl (hb hby at_323) rfl kq) ?_
                show zq_Go p e below s _ _ _ (T30.setTop (mkF m 324 #[.val (.long x0), .second, .val (.long x1), .second, .val (.long x2), .second, .val (.long x3), .second, .val (.int x4), .val (.int (Nat.toInt32 N)), .val (.int (Nat.toInt32 f)), .val (.int g), .val (.ref b1), .val (.ref b9), .unset] [(.int ((Nat.toInt32 f) + (Nat.toInt32 N))), (.int (Nat.toInt32 f)), (.ref b9), (.ref b29)]))
                obtain ⟨_, T31, L31, X31, ⟨rfl, Nq31, K31⟩, st31⟩ := zq_callV (W := 0) X30 hx hZ hown (hw _ (List.mem_of_getElem? (i := 14) rfl)) (hw _ (List.mem_of_getElem? (i := 15) rfl)) (hw _ (List.mem_of_getElem? (i := 17) rfl)) (hw _ (List.mem_of_getElem? (i := 16) rfl)) (hw _ (List.mem_of_getElem? (i := 3) rfl)) (hw _ (List.mem_of_getElem? (i := 18) rfl)) (by decide) (zq_rmO l Z a0 hw [] b29 b9 (Nat.toInt32 f) ((Nat.toInt32 f) + (Nat.toInt32 N)) T30.heap h0.size x0 x1 (zq_ar (fun k => ([c0, c1, c2, c3, c4, c5, c6] : List Int32).getD k 0) g f N) f N F_key0_b29 F_key1_b29 A_b9 rfl (zq_add (by omega)) hf3 hN ZS) rfl E_b29 (by decide) (by decide) (by decide) (by decide) (g := (mkF m 324 #[.val (.long x0), .second, .val (.long x1), .second, .val (.long x2), .second, .val (.long x3), .second, .val (.int x4), .val (.int (Nat.toInt32 N)), .val (.int (Nat.toInt32 f)), .val (.int g), .val (.ref b1), .val (.ref b9), .unset] [(.int ((Nat.toInt32 f) + (Nat.toInt32 N))), (.int (Nat.toInt32 f)), (.ref b9), (.ref b29)])) rfl (by rw [hml]; rfl) (a := b29) (argsL := [(.ref b9), (.int (Nat.toInt32 f)), (.int ((Nat.toInt32 f) + (Nat.toInt32 N)))]) (rest := []) (lenOf zq_pd12 rfl) rfl (by show 2 * 0 + _ ≤ _; exact Nat.le_of_eq rfl) (hb hby at_324)
                have A_b9 := A_b9.keep K31 nin0
                have A_b1 := A_b1.keep K31 nin0
                have E_b29 := E_b29.keep K31
                have F_key0_b29 := F_key0_b29.keep K31 nin0
                have F_key1_b29 := F_key1_b29.keep K31 nin0
                have ZS := Nat.le_trans ZS K31.1
                obtain ⟨L31, X31, NF⟩ : ∃ L : List Loc, Stand p l e room_1 s m #[(.long x0), (.long x1), (.long x2), (.long x3), (.int x4)] below meth c T31 L 4 25 ∧ Fr h0.size L := ⟨_, X31, Fr.app NF Nq31⟩
                refine zq_go st31 ?_
                show zq_Go p e below s _ _ _ (T31.setTop (mkF m 327 #[.val (.long x0), .second, .val (.long x1), .second, .val (.long x2), .second, .val (.long x3), .second, .val (.int x4), .val (.int (Nat.toInt32 N)), .val (.int (Nat.toInt32 f)), .val (.int g), .val (.ref b1), .val (.ref b9), .unset] [(.int (zq_of x0 x1 (zq_ar (fun k => ([c0, c1, c2, c3, c4, c5, c6] : List Int32).getD k 0) g f N) f N))]))
                refine zq_go (fun _ kq => XS.istore X31.here hx rfl (hb hby at_327) rfl (l' := #[.val (.long x0), .second, .val (.long x1), .second, .val (.long x2), .second, .val (.long x3), .second, .val (.int x4), .val (.int (Nat.toInt32 N)), .val (.int (Nat.toInt32 f)), .val (.int g), .val (.ref b1), .val (.ref b9), .val (.int (zq_of x0 x1 (zq_ar (fun k => ([c0, c1, c2, c3, c4, c5, c6] : List Int32).getD k 0) g f N) f N))]) rfl kq) ?_
                show zq_Go p e below s _ _ _ (T31.setTop (mkF m 329 #[.val (.long x0), .second, .val (.long x1), .second, .val (.long x2), .second, .val (.long x3), .second, .val (.int x4), .val (.int (Nat.toInt32 N)), .val (.int (Nat.toInt32 f)), .val (.int g), .val (.ref b1), .val (.ref b9), .val (.int (zq_of x0 x1 (zq_ar (fun k => ([c0, c1, c2, c3, c4, c5, c6] : List Int32).getD k 0) g f N) f N))] []))
                refine zq_go (fun _ kq => XS.iload X31.here hx rfl (hb hby at_329) rfl kq) ?_
                show zq_Go p e below s _ _ _ (T31.setTop (mkF m 331 #[.val (.long x0), .second, .val (.long x1), .second, .val (.long x2), .second, .val (.long x3), .second, .val (.int x4), .val (.int (Nat.toInt32 N)), .val (.int (Nat.toInt32 f)), .val (.int g), .val (.ref b1), .val (.ref b9), .val (.int (zq_of x0 x1 (zq_ar (fun k => ([c0, c1, c2, c3, c4, c5, c6] : List Int32).getD k 0) g f N) f N))] [(.int (zq_of x0 x1 (zq_ar (fun k => ([c0, c1, c2, c3, c4, c5, c6] : List Int32).getD k 0) g f N) f N))]))
                refine zq_go (fun _ kq => XS.lloadN X31.here hx rfl (hb hby at_331) rfl kq) ?_
                show zq_Go p e below s _ _ _ (T31.setTop (mkF m 332 #[.val (.long x0), .second, .val (.long x1), .second, .val (.long x2), .second, .val (.long x3), .second, .val (.int x4), .val (.int (Nat.toInt32 N)), .val (.int (Nat.toInt32 f)), .val (.int g), .val (.ref b1), .val (.ref b9), .val (.int (zq_of x0 x1 (zq_ar (fun k => ([c0, c1, c2, c3, c4, c5, c6] : List Int32).getD k 0) g f N) f N))] [(.long x0), (.int (zq_of x0 x1 (zq_ar (fun k => ([c0, c1, c2, c3, c4, c5, c6] : List Int32).getD k 0) g f N) f N))]))
                refine zq_go (fun _ kq => XS.lloadN X31.here hx rfl (hb hby at_332) rfl kq) ?_
                show zq_Go p e below s _ _ _ (T31.setTop (mkF m 333 #[.val (.long x0), .second, .val (.long x1), .second, .val (.long x2), .second, .val (.long x3), .second, .val (.int x4), .val (.int (Nat.toInt32 N)), .val (.int (Nat.toInt32 f)), .val (.int g), .val (.ref b1), .val (.ref b9), .val (.int (zq_of x0 x1 (zq_ar (fun k => ([c0, c1, c2, c3, c4, c5, c6] : List Int32).getD k 0) g f N) f N))] [(.long x1), (.long x0), (.int (zq_of x0 x1 (zq_ar (fun k => ([c0, c1, c2, c3, c4, c5, c6] : List Int32).getD k 0) g f N) f N))]))
                refine zq_go (fun _ kq => XS.aload X31.here hx rfl (hb hby at_333) rfl rfl kq) ?_
                show zq_Go p e below s _ _ _ (T31.setTop (mkF m 335 #[.val (.long x0), .second, .val (.long x1), .second, .val (.long x2), .second, .val (.long x3), .second, .val (.int x4), .val (.int (Nat.toInt32 N)), .val (.int (Nat.toInt32 f)), .val (.int g), .val (.ref b1), .val (.ref b9), .val (.int (zq_of x0 x1 (zq_ar (fun k => ([c0, c1, c2, c3, c4, c5, c6] : List Int32).getD k 0) g f N) f N))] [(.ref b1), (.long x1), (.long x0), (.int (zq_of x0 x1 (zq_ar (fun k => ([c0, c1, c2, c3, c4, c5, c6] : List Int32).getD k 0) g f N) f N))]))
                refine zq_go (fun _ kq => XS.iload X31.here hx rfl (hb hby at_335) rfl kq) ?_
                show zq_Go p e below s _ _ _ (T31.setTop (mkF m 337 #[.val (.long x0), .second, .val (.long x1), .second, .val (.long x2), .second, .val (.long x3), .second, .val (.int x4), .val (.int (Nat.toInt32 N)), .val (.int (Nat.toInt32 f)), .val (.int g), .val (.ref b1), .val (.ref b9), .val (.int (zq_of x0 x1 (zq_ar (fun k => ([c0, c1, c2, c3, c4, c5, c6] : List Int32).getD k 0) g f N) f N))] [(.int (Nat.toInt32 N)), (.ref b1), (.long x1), (.long x0), (.int (zq_of x0 x1 (zq_ar (fun k => ([c0, c1, c2, c3, c4, c5, c6] : List Int32).getD k 0) g f N) f N))]))
                obtain ⟨_, T32, L32, X32, ⟨rfl, Nq32⟩, st32⟩ := zq_callS (W := 1) X31 hx hZ hown (hw _ (List.mem_of_getElem? (i := 57) rfl)) (hw _ (List.mem_of_getElem? (i := 58) rfl)) (hw _ (List.mem_of_getElem? (i := 59) rfl)) (hw _ (List.mem_of_getElem? (i := 60) rfl)) (by decide) (zq_rmF l Z a0 hw [] x0 x1 b1 (Nat.toInt32 N) T31.heap h0.size (fun k => ([c0, c1, c2, c3, c4, c5, c6] : List Int32).getD k 0) N A_b1 rfl hN ZS) rfl (by decide) (by decide) (by decide) (by decide) (g := (mkF m 337 #[.val (.long x0), .second, .val (.long x1), .second, .val (.long x2), .second, .val (.long x3), .second, .val (.int x4), .val (.int (Nat.toInt32 N)), .val (.int (Nat.toInt32 f)), .val (.int g), .val (.ref b1), .val (.ref b9), .val (.int (zq_of x0 x1 (zq_ar (fun k => ([c0, c1, c2, c3, c4, c5, c6] : List Int32).getD k 0) g f N) f N))] [(.int (Nat.toInt32 N)), (.ref b1), (.long x1), (.long x0), (.int (zq_of x0 x1 (zq_ar (fun k => ([c0, c1, c2, c3, c4, c5, c6] : List Int32).getD k 0) g f N) f N))])) rfl (by rw [hml]; rfl) (argsL := [(.long x0), (.long x1), (.ref b1), (.int (Nat.toInt32 N))]) (rest := [(.int (zq_of x0 x1 (zq_ar (fun k => ([c0, c1, c2, c3, c4, c5, c6] : List Int32).getD k 0) g f N) f N))]) (lenOf zq_pd13 rfl) rfl (by show 2 * 0 + _ ≤ _; exact Nat.le_of_eq rfl) (hb hby at_337)
                obtain ⟨L32, X32, NF⟩ : ∃ L : List Loc, Stand p l e room_1 s m #[(.long x0), (.long x1), (.long x2), (.long x3), (.int x4)] below meth c T32 L 5 29 ∧ Fr h0.size L := ⟨_, X32, Fr.app NF Nq32⟩
                refine zq_go st32 ?_
                show zq_Go p e below s _ _ _ (T32.setTop (mkF m 340 #[.val (.long x0), .second, .val (.long x1), .second, .val (.long x2), .second, .val (.long x3), .second, .val (.int x4), .val (.int (Nat.toInt32 N)), .val (.int (Nat.toInt32 f)), .val (.int g), .val (.ref b1), .val (.ref b9), .val (.int (zq_of x0 x1 (zq_ar (fun k => ([c0, c1, c2, c3, c4, c5, c6] : List Int32).getD k 0) g f N) f N))] [(.int (zq_ref x0 x1 (fun k => ([c0, c1, c2, c3, c4, c5, c6] : List Int32).getD k 0) (Nat.toInt32 N))), (.int (zq_of x0 x1 (zq_ar (fun k => ([c0, c1, c2, c3, c4, c5, c6] : List Int32).getD k 0) g f N) f N))]))
                refine zq_go (fun _ kq => XS.icmpNo X32.here hx rfl (hb hby at_340) rfl (teq (zq_law _ _ _ _ hcc hN : (zq_of x0 x1 (zq_ar (fun k => ([c0, c1, c2, c3, c4, c5, c6] : List Int32).getD k 0) g f N) f N) = (zq_ref x0 x1 (fun k => ([c0, c1, c2, c3, c4, c5, c6] : List Int32).getD k 0) (Nat.toInt32 N)))).2 kq) ?_
                show zq_Go p e below s _ _ _ (T32.setTop (mkF m 343 #[.val (.long x0), .second, .val (.long x1), .second, .val (.long x2), .second, .val (.long x3), .second, .val (.int x4), .val (.int (Nat.toInt32 N)), .val (.int (Nat.toInt32 f)), .val (.int g), .val (.ref b1), .val (.ref b9), .val (.int (zq_of x0 x1 (zq_ar (fun k => ([c0, c1, c2, c3, c4, c5, c6] : List Int32).getD k 0) g f N) f N))] []))
                refine zq_go (fun _ kq => XS.iconst X32.here hx rfl (hb hby at_343) kq) ?_
                show zq_Go p e below s _ _ _ (T32.setTop (mkF m 344 #[.val (.long x0), .second, .val (.long x1), .second, .val (.long x2), .second, .val (.long x3), .second, .val (.int x4), .val (.int (Nat.toInt32 N)), .val (.int (Nat.toInt32 f)), .val (.int g), .val (.ref b1), .val (.ref b9), .val (.int (zq_of x0 x1 (zq_ar (fun k => ([c0, c1, c2, c3, c4, c5, c6] : List Int32).getD k 0) g f N) f N))] [(.int (1 : Int32))]))
                refine zq_go (fun _ kq => XS.goto X32.here hx rfl (pc0 := 344) (pc' := 348) rfl (hb hby at_344) (by decide) (by decide) kq) ?_
                show zq_Go p e below s _ _ _ (T32.setTop (mkF m 348 #[.val (.long x0), .second, .val (.long x1), .second, .val (.long x2), .second, .val (.long x3), .second, .val (.int x4), .val (.int (Nat.toInt32 N)), .val (.int (Nat.toInt32 f)), .val (.int g), .val (.ref b1), .val (.ref b9), .val (.int (zq_of x0 x1 (zq_ar (fun k => ([c0, c1, c2, c3, c4, c5, c6] : List Int32).getD k 0) g f N) f N))] [(.int (1 : Int32))]))
                exact zq_retN X32 hx hlk (t := .boolean) hret (by simp) (hb hby at_348) ⟨rfl, NF⟩ (by decide) (by decide)
              by_cases hk6 : 6 < N
              ·
                show zq_Go p e below s _ _ _ (Tq5.setTop (mkF m 286 #[.val (.long x0), .second, .val (.long x1), .second, .val (.long x2), .second, .val (.long x3), .second, .val (.int x4), .val (.int (Nat.toInt32 N)), .val (.int (Nat.toInt32 f)), .val (.int g), .val (.ref b1), .val (.ref b9), .unset] []))
                refine zq_go (fun _ kq => XS.bipush Xq5.here hx rfl (hb hby at_286) kq) ?_
                show zq_Go p e below s _ _ _ (Tq5.setTop (mkF m 288 #[.val (.long x0), .second, .val (.long x1), .second, .val (.long x2), .second, .val (.long x3), .second, .val (.int x4), .val (.int (Nat.toInt32 N)), .val (.int (Nat.toInt32 f)), .val (.int g), .val (.ref b1), .val (.ref b9), .unset] [(.int (6 : Int32))]))
                refine zq_go (fun _ kq => XS.iload Xq5.here hx rfl (hb hby at_288) rfl kq) ?_
                show zq_Go p e below s _ _ _ (Tq5.setTop (mkF m 290 #[.val (.long x0), .second, .val (.long x1), .second, .val (.long x2), .second, .val (.long x3), .second, .val (.int x4), .val (.int (Nat.toInt32 N)), .val (.int (Nat.toInt32 f)), .val (.int g), .val (.ref b1), .val (.ref b9), .unset] [(.int (Nat.toInt32 N)), (.int (6 : Int32))]))
                refine zq_go (fun _ kq => XS.icmpNo Xq5.here hx rfl (hb hby at_290) rfl (tlt ((zq_lt (i := 6) (by omega) (by omega)).mpr hk6 : (6 : Int32) < (Nat.toInt32 N))).2.1 kq) ?_
                show zq_Go p e below s _ _ _ (Tq5.setTop (mkF m 293 #[.val (.long x0), .second, .val (.long x1), .second, .val (.long x2), .second, .val (.long x3), .second, .val (.int x4), .val (.int (Nat.toInt32 N)), .val (.int (Nat.toInt32 f)), .val (.int g), .val (.ref b1), .val (.ref b9), .unset] []))
                refine zq_go (fun _ kq => XS.aload Xq5.here hx rfl (hb hby at_293) rfl rfl kq) ?_
                show zq_Go p e below s _ _ _ (Tq5.setTop (mkF m 295 #[.val (.long x0), .second, .val (.long x1), .second, .val (.long x2), .second, .val (.long x3), .second, .val (.int x4), .val (.int (Nat.toInt32 N)), .val (.int (Nat.toInt32 f)), .val (.int g), .val (.ref b1), .val (.ref b9), .unset] [(.ref b9)]))
                refine zq_go (fun _ kq => XS.iload Xq5.here hx rfl (hb hby at_295) rfl kq) ?_
                show zq_Go p e below s _ _ _ (Tq5.setTop (mkF m 297 #[.val (.long x0), .second, .val (.long x1), .second, .val (.long x2), .second, .val (.long x3), .second, .val (.int x4), .val (.int (Nat.toInt32 N)), .val (.int (Nat.toInt32 f)), .val (.int g), .val (.ref b1), .val (.ref b9), .unset] [(.int (Nat.toInt32 f)), (.ref b9)]))
                refine zq_go (fun _ kq => XS.bipush Xq5.here hx rfl (hb hby at_297) kq) ?_
                show zq_Go p e below s _ _ _ (Tq5.setTop (mkF m 299 #[.val (.long x0), .second, .val (.long x1), .second, .val (.long x2), .second, .val (.long x3), .second, .val (.int x4), .val (.int (Nat.toInt32 N)), .val (.int (Nat.toInt32 f)), .val (.int g), .val (.ref b1), .val (.ref b9), .unset] [(.int (6 : Int32)), (.int (Nat.toInt32 f)), (.ref b9)]))
                refine zq_go (fun _ kq => XS.iadd Xq5.here hx rfl (hb hby at_299) rfl kq) ?_
                show zq_Go p e below s _ _ _ (Tq5.setTop (mkF m 300 #[.val (.long x0), .second, .val (.long x1), .second, .val (.long x2), .second, .val (.long x3), .second, .val (.int x4), .val (.int (Nat.toInt32 N)), .val (.int (Nat.toInt32 f)), .val (.int g), .val (.ref b1), .val (.ref b9), .unset] [(.int ((Nat.toInt32 f) + (6 : Int32))), (.ref b9)]))
                refine zq_go (fun _ kq => XS.aload Xq5.here hx rfl (hb hby at_300) rfl rfl kq) ?_
                show zq_Go p e below s _ _ _ (Tq5.setTop (mkF m 302 #[.val (.long x0), .second, .val (.long x1), .second, .val (.long x2), .second, .val (.long x3), .second, .val (.int x4), .val (.int (Nat.toInt32 N)), .val (.int (Nat.toInt32 f)), .val (.int g), .val (.ref b1), .val (.ref b9), .unset] [(.ref b1), (.int ((Nat.toInt32 f) + (6 : Int32))), (.ref b9)]))
                refine zq_go (fun _ kq => XS.bipush Xq5.here hx rfl (hb hby at_302) kq) ?_
                show zq_Go p e below s _ _ _ (Tq5.setTop (mkF m 304 #[.val (.long x0), .second, .val (.long x1), .second, .val (.long x2), .second, .val (.long x3), .second, .val (.int x4), .val (.int (Nat.toInt32 N)), .val (.int (Nat.toInt32 f)), .val (.int g), .val (.ref b1), .val (.ref b9), .unset] [(.int (6 : Int32)), (.ref b1), (.int ((Nat.toInt32 f) + (6 : Int32))), (.ref b9)]))
                refine zq_go (zq_ldC Xq5 hx hZ eq5 A_b1 (j := (6 : Int32)) (i := 6) (by decide) (by decide) (by decide) (g := (mkF m 304 #[.val (.long x0), .second, .val (.long x1), .second, .val (.long x2), .second, .val (.long x3), .second, .val (.int x4), .val (.int (Nat.toInt32 N)), .val (.int (Nat.toInt32 f)), .val (.int g), .val (.ref b1), .val (.ref b9), .unset] [(.int (6 : Int32)), (.ref b1), (.int ((Nat.toInt32 f) + (6 : Int32))), (.ref b9)])) rfl rfl (hb hby at_304)) ?_
                show zq_Go p e below s _ _ _ (Tq5.setTop (mkF m 305 #[.val (.long x0), .second, .val (.long x1), .second, .val (.long x2), .second, .val (.long x3), .second, .val (.int x4), .val (.int (Nat.toInt32 N)), .val (.int (Nat.toInt32 f)), .val (.int g), .val (.ref b1), .val (.ref b9), .unset] [(.int c6), (.int ((Nat.toInt32 f) + (6 : Int32))), (.ref b9)]))
                obtain ⟨T28, h28, X28, e28, W28, A_b9, st28⟩ := zq_stC Xq5 hx hZ eq5 A_b9 (j := ((Nat.toInt32 f) + (6 : Int32))) (i := (f + 6)) (zq_ixc (k := 6) (by omega)) (zq_ixn (k := 6) (by omega)) (by omega) (g := (mkF m 305 #[.val (.long x0), .second, .val (.long x1), .second, .val (.long x2), .second, .val (.long x3), .second, .val (.int x4), .val (.int (Nat.toInt32 N)), .val (.int (Nat.toInt32 f)), .val (.int g), .val (.ref b1), .val (.ref b9), .unset] [(.int c6), (.int ((Nat.toInt32 f) + (6 : Int32))), (.ref b9)])) rfl rfl (hb hby at_305)
                refine zq_go st28 ?_
                have A_b1 := A_b1.other W28 ne_b1_b9
                have ZS := Nat.le_trans ZS (Keep.of_wr W28).1
                obtain ⟨L28, X28, NF⟩ : ∃ L : List Loc, Stand p l e room_1 s m #[(.long x0), (.long x1), (.long x2), (.long x3), (.int x4)] below meth c T28 L 2 19 ∧ Fr h0.size L := ⟨_, X28, Fr.snoc X28 NF g_b9⟩
                show zq_Go p e below s _ _ _ (T28.setTop (mkF m 306 #[.val (.long x0), .second, .val (.long x1), .second, .val (.long x2), .second, .val (.long x3), .second, .val (.int x4), .val (.int (Nat.toInt32 N)), .val (.int (Nat.toInt32 f)), .val (.int g), .val (.ref b1), .val (.ref b9), .unset] []))
                rw [zq_gg hc6] at A_b9
                exact J306 _ _ _ X28 e28 NF ZS (A_b9.congr (fun j _ => zq_arst (fun k => ([c0, c1, c2, c3, c4, c5, c6] : List Int32).getD k 0) g f N 6 hk6 j)) A_b1
              show zq_Go p e below s _ _ _ (Tq5.setTop (mkF m 286 #[.val (.long x0), .second, .val (.long x1), .second, .val (.long x2), .second, .val (.long x3), .second, .val (.int x4), .val (.int (Nat.toInt32 N)), .val (.int (Nat.toInt32 f)), .val (.int g), .val (.ref b1), .val (.ref b9), .unset] []))
              refine zq_go (fun _ kq => XS.bipush Xq5.here hx rfl (hb hby at_286) kq) ?_
              show zq_Go p e below s _ _ _ (Tq5.setTop (mkF m 288 #[.val (.long x0), .second, .val (.long x1), .second, .val (.long x2), .second, .val (.long x3), .second, .val (.int x4), .val (.int (Nat.toInt32 N)), .val (.int (Nat.toInt32 f)), .val (.int g), .val (.ref b1), .val (.ref b9), .unset] [(.int (6 : Int32))]))
              refine zq_go (fun _ kq => XS.iload Xq5.here hx rfl (hb hby at_288) rfl kq) ?_
              show zq_Go p e below s _ _ _ (Tq5.setTop (mkF m 290 #[.val (.long x0), .second, .val (.long x1), .second, .val (.long x2), .second, .val (.long x3), .second, .val (.int x4), .val (.int (Nat.toInt32 N)), .val (.int (Nat.toInt32 f)), .val (.int g), .val (.ref b1), .val (.ref b9), .unset] [(.int (Nat.toInt32 N)), (.int (6 : Int32))]))
              refine zq_go (fun _ kq => XS.icmpYes Xq5.here hx rfl (pc0 := 290) (pc' := 306) rfl (hb hby at_290) rfl (flt (fun q => hk6 ((zq_lt (i := 6) (by omega) (by omega)).mp q) : ¬ ((6 : Int32) < (Nat.toInt32 N)))).2.1 (by decide) (by decide) kq) ?_
              show zq_Go p e below s _ _ _ (Tq5.setTop (mkF m 306 #[.val (.long x0), .second, .val (.long x1), .second, .val (.long x2), .second, .val (.long x3), .second, .val (.int x4), .val (.int (Nat.toInt32 N)), .val (.int (Nat.toInt32 f)), .val (.int g), .val (.ref b1), .val (.ref b9), .unset] []))
              exact J306 _ _ _ Xq5 eq5 NF ZS (A_b9.congr (fun j hj => by rw [show min 6 N = min 7 N by omega])) A_b1
            by_cases hk5 : 5 < N
            ·
              show zq_Go p e below s _ _ _ (Tq4.setTop (mkF m 269 #[.val (.long x0), .second, .val (.long x1), .second, .val (.long x2), .second, .val (.long x3), .second, .val (.int x4), .val (.int (Nat.toInt32 N)), .val (.int (Nat.toInt32 f)), .val (.int g), .val (.ref b1), .val (.ref b9), .unset] []))
              refine zq_go (fun _ kq => XS.iconst Xq4.here hx rfl (hb hby at_269) kq) ?_
              show zq_Go p e below s _ _ _ (Tq4.setTop (mkF m 270 #[.val (.long x0), .second, .val (.long x1), .second, .val (.long x2), .second, .val (.long x3), .second, .val (.int x4), .val (.int (Nat.toInt32 N)), .val (.int (Nat.toInt32 f)), .val (.int g), .val (.ref b1), .val (.ref b9), .unset] [(.int (5 : Int32))]))
              refine zq_go (fun _ kq => XS.iload Xq4.here hx rfl (hb hby at_270) rfl kq) ?_
              show zq_Go p e below s _ _ _ (Tq4.setTop (mkF m 272 #[.val (.long x0), .second, .val (.long x1), .second, .val (.long x2), .second, .val (.long x3), .second, .val (.int x4), .val (.int (Nat.toInt32 N)), .val (.int (Nat.toInt32 f)), .val (.int g), .val (.ref b1), .val (.ref b9), .unset] [(.int (Nat.toInt32 N)), (.int (5 : Int32))]))
              refine zq_go (fun _ kq => XS.icmpNo Xq4.here hx rfl (hb hby at_272) rfl (tlt ((zq_lt (i := 5) (by omega) (by omega)).mpr hk5 : (5 : Int32) < (Nat.toInt32 N))).2.1 kq) ?_
              show zq_Go p e below s _ _ _ (Tq4.setTop (mkF m 275 #[.val (.long x0), .second, .val (.long x1), .second, .val (.long x2), .second, .val (.long x3), .second, .val (.int x4), .val (.int (Nat.toInt32 N)), .val (.int (Nat.toInt32 f)), .val (.int g), .val (.ref b1), .val (.ref b9), .unset] []))
              refine zq_go (fun _ kq => XS.aload Xq4.here hx rfl (hb hby at_275) rfl rfl kq) ?_
              show zq_Go p e below s _ _ _ (Tq4.setTop (mkF m 277 #[.val (.long x0), .second, .val (.long x1), .second, .val (.long x2), .second, .val (.long x3), .second, .val (.int x4), .val (.int (Nat.toInt32 N)), .val (.int (Nat.toInt32 f)), .val (.int g), .val (.ref b1), .val (.ref b9), .unset] [(.ref b9)]))
              refine zq_go (fun _ kq => XS.iload Xq4.here hx rfl (hb hby at_277) rfl kq) ?_
              show zq_Go p e below s _ _ _ (Tq4.setTop (mkF m 279 #[.val (.long x0), .second, .val (.long x1), .second, .val (.long x2), .second, .val (.long x3), .second, .val (.int x4), .val (.int (Nat.toInt32 N)), .val (.int (Nat.toInt32 f)), .val (.int g), .val (.ref b1), .val (.ref b9), .unset] [(.int (Nat.toInt32 f)), (.ref b9)]))
              refine zq_go (fun _ kq => XS.iconst Xq4.here hx rfl (hb hby at_279) kq) ?_
              show zq_Go p e below s _ _ _ (Tq4.setTop (mkF m 280 #[.val (.long x0), .second, .val (.long x1), .second, .val (.long x2), .second, .val (.long x3), .second, .val (.int x4), .val (.int (Nat.toInt32 N)), .val (.int (Nat.toInt32 f)), .val (.int g), .val (.ref b1), .val (.ref b9), .unset] [(.int (5 : Int32)), (.int (Nat.toInt32 f)), (.ref b9)]))
              refine zq_go (fun _ kq => XS.iadd Xq4.here hx rfl (hb hby at_280) rfl kq) ?_
              show zq_Go p e below s _ _ _ (Tq4.setTop (mkF m 281 #[.val (.long x0), .second, .val (.long x1), .second, .val (.long x2), .second, .val (.long x3), .second, .val (.int x4), .val (.int (Nat.toInt32 N)), .val (.int (Nat.toInt32 f)), .val (.int g), .val (.ref b1), .val (.ref b9), .unset] [(.int ((Nat.toInt32 f) + (5 : Int32))), (.ref b9)]))
              refine zq_go (fun _ kq => XS.aload Xq4.here hx rfl (hb hby at_281) rfl rfl kq) ?_
              show zq_Go p e below s _ _ _ (Tq4.setTop (mkF m 283 #[.val (.long x0), .second, .val (.long x1), .second, .val (.long x2), .second, .val (.long x3), .second, .val (.int x4), .val (.int (Nat.toInt32 N)), .val (.int (Nat.toInt32 f)), .val (.int g), .val (.ref b1), .val (.ref b9), .unset] [(.ref b1), (.int ((Nat.toInt32 f) + (5 : Int32))), (.ref b9)]))
              refine zq_go (fun _ kq => XS.iconst Xq4.here hx rfl (hb hby at_283) kq) ?_
              show zq_Go p e below s _ _ _ (Tq4.setTop (mkF m 284 #[.val (.long x0), .second, .val (.long x1), .second, .val (.long x2), .second, .val (.long x3), .second, .val (.int x4), .val (.int (Nat.toInt32 N)), .val (.int (Nat.toInt32 f)), .val (.int g), .val (.ref b1), .val (.ref b9), .unset] [(.int (5 : Int32)), (.ref b1), (.int ((Nat.toInt32 f) + (5 : Int32))), (.ref b9)]))
              refine zq_go (zq_ldC Xq4 hx hZ eq4 A_b1 (j := (5 : Int32)) (i := 5) (by decide) (by decide) (by decide) (g := (mkF m 284 #[.val (.long x0), .second, .val (.long x1), .second, .val (.long x2), .second, .val (.long x3), .second, .val (.int x4), .val (.int (Nat.toInt32 N)), .val (.int (Nat.toInt32 f)), .val (.int g), .val (.ref b1), .val (.ref b9), .unset] [(.int (5 : Int32)), (.ref b1), (.int ((Nat.toInt32 f) + (5 : Int32))), (.ref b9)])) rfl rfl (hb hby at_284)) ?_
              show zq_Go p e below s _ _ _ (Tq4.setTop (mkF m 285 #[.val (.long x0), .second, .val (.long x1), .second, .val (.long x2), .second, .val (.long x3), .second, .val (.int x4), .val (.int (Nat.toInt32 N)), .val (.int (Nat.toInt32 f)), .val (.int g), .val (.ref b1), .val (.ref b9), .unset] [(.int c5), (.int ((Nat.toInt32 f) + (5 : Int32))), (.ref b9)]))
              obtain ⟨T27, h27, X27, e27, W27, A_b9, st27⟩ := zq_stC Xq4 hx hZ eq4 A_b9 (j := ((Nat.toInt32 f) + (5 : Int32))) (i := (f + 5)) (zq_ixc (k := 5) (by omega)) (zq_ixn (k := 5) (by omega)) (by omega) (g := (mkF m 285 #[.val (.long x0), .second, .val (.long x1), .second, .val (.long x2), .second, .val (.long x3), .second, .val (.int x4), .val (.int (Nat.toInt32 N)), .val (.int (Nat.toInt32 f)), .val (.int g), .val (.ref b1), .val (.ref b9), .unset] [(.int c5), (.int ((Nat.toInt32 f) + (5 : Int32))), (.ref b9)])) rfl rfl (hb hby at_285)
              refine zq_go st27 ?_
              have A_b1 := A_b1.other W27 ne_b1_b9
              have ZS := Nat.le_trans ZS (Keep.of_wr W27).1
              obtain ⟨L27, X27, NF⟩ : ∃ L : List Loc, Stand p l e room_1 s m #[(.long x0), (.long x1), (.long x2), (.long x3), (.int x4)] below meth c T27 L 2 19 ∧ Fr h0.size L := ⟨_, X27, Fr.snoc X27 NF g_b9⟩
              show zq_Go p e below s _ _ _ (T27.setTop (mkF m 286 #[.val (.long x0), .second, .val (.long x1), .second, .val (.long x2), .second, .val (.long x3), .second, .val (.int x4), .val (.int (Nat.toInt32 N)), .val (.int (Nat.toInt32 f)), .val (.int g), .val (.ref b1), .val (.ref b9), .unset] []))
              rw [zq_gg hc5] at A_b9
              exact J286 _ _ _ X27 e27 NF ZS (A_b9.congr (fun j _ => zq_arst (fun k => ([c0, c1, c2, c3, c4, c5, c6] : List Int32).getD k 0) g f N 5 hk5 j)) A_b1
            show zq_Go p e below s _ _ _ (Tq4.setTop (mkF m 269 #[.val (.long x0), .second, .val (.long x1), .second, .val (.long x2), .second, .val (.long x3), .second, .val (.int x4), .val (.int (Nat.toInt32 N)), .val (.int (Nat.toInt32 f)), .val (.int g), .val (.ref b1), .val (.ref b9), .unset] []))
            refine zq_go (fun _ kq => XS.iconst Xq4.here hx rfl (hb hby at_269) kq) ?_
            show zq_Go p e below s _ _ _ (Tq4.setTop (mkF m 270 #[.val (.long x0), .second, .val (.long x1), .second, .val (.long x2), .second, .val (.long x3), .second, .val (.int x4), .val (.int (Nat.toInt32 N)), .val (.int (Nat.toInt32 f)), .val (.int g), .val (.ref b1), .val (.ref b9), .unset] [(.int (5 : Int32))]))
            refine zq_go (fun _ kq => XS.iload Xq4.here hx rfl (hb hby at_270) rfl kq) ?_
            show zq_Go p e below s _ _ _ (Tq4.setTop (mkF m 272 #[.val (.long x0), .second, .val (.long x1), .second, .val (.long x2), .second, .val (.long x3), .second, .val (.int x4), .val (.int (Nat.toInt32 N)), .val (.int (Nat.toInt32 f)), .val (.int g), .val (.ref b1), .val (.ref b9), .unset] [(.int (Nat.toInt32 N)), (.int (5 : Int32))]))
            refine zq_go (fun _ kq => XS.icmpYes Xq4.here hx rfl (pc0 := 272) (pc' := 286) rfl (hb hby at_272) rfl (flt (fun q => hk5 ((zq_lt (i := 5) (by omega) (by omega)).mp q) : ¬ ((5 : Int32) < (Nat.toInt32 N)))).2.1 (by decide) (by decide) kq) ?_
            show zq_Go p e below s _ _ _ (Tq4.setTop (mkF m 286 #[.val (.long x0), .second, .val (.long x1), .second, .val (.long x2), .second, .val (.long x3), .second, .val (.int x4), .val (.int (Nat.toInt32 N)), .val (.int (Nat.toInt32 f)), .val (.int g), .val (.ref b1), .val (.ref b9), .unset] []))
            exact J286 _ _ _ Xq4 eq4 NF ZS (A_b9.congr (fun j hj => by rw [show min 5 N = min 6 N by omega])) A_b1
          by_cases hk4 : 4 < N
          ·
            show zq_Go p e below s _ _ _ (Tq3.setTop (mkF m 252 #[.val (.long x0), .second, .val (.long x1), .second, .val (.long x2), .second, .val (.long x3), .second, .val (.int x4), .val (.int (Nat.toInt32 N)), .val (.int (Nat.toInt32 f)), .val (.int g), .val (.ref b1), .val (.ref b9), .unset] []))
            refine zq_go (fun _ kq => XS.iconst Xq3.here hx rfl (hb hby at_252) kq) ?_
            show zq_Go p e below s _ _ _ (Tq3.setTop (mkF m 253 #[.val (.long x0), .second, .val (.long x1), .second, .val (.long x2), .second, .val (.long x3), .second, .val (.int x4), .val (.int (Nat.toInt32 N)), .val (.int (Nat.toInt32 f)), .val (.int g), .val (.ref b1), .val (.ref b9), .unset] [(.int (4 : Int32))]))
            refine zq_go (fun _ kq => XS.iload Xq3.here hx rfl (hb hby at_253) rfl kq) ?_
            show zq_Go p e below s _ _ _ (Tq3.setTop (mkF m 255 #[.val (.long x0), .second, .val (.long x1), .second, .val (.long x2), .second, .val (.long x3), .second, .val (.int x4), .val (.int (Nat.toInt32 N)), .val (.int (Nat.toInt32 f)), .val (.int g), .val (.ref b1), .val (.ref b9), .unset] [(.int (Nat.toInt32 N)), (.int (4 : Int32))]))
            refine zq_go (fun _ kq => XS.icmpNo Xq3.here hx rfl (hb hby at_255) rfl (tlt ((zq_lt (i := 4) (by omega) (by omega)).mpr hk4 : (4 : Int32) < (Nat.toInt32 N))).2.1 kq) ?_
            show zq_Go p e below s _ _ _ (Tq3.setTop (mkF m 258 #[.val (.long x0), .second, .val (.long x1), .second, .val (.long x2), .second, .val (.long x3), .second, .val (.int x4), .val (.int (Nat.toInt32 N)), .val (.int (Nat.toInt32 f)), .val (.int g), .val (.ref b1), .val (.ref b9), .unset] []))
            refine zq_go (fun _ kq => XS.aload Xq3.here hx rfl (hb hby at_258) rfl rfl kq) ?_
            show zq_Go p e below s _ _ _ (Tq3.setTop (mkF m 260 #[.val (.long x0), .second, .val (.long x1), .second, .val (.long x2), .second, .val (.long x3), .second, .val (.int x4), .val (.int (Nat.toInt32 N)), .val (.int (Nat.toInt32 f)), .val (.int g), .val (.ref b1), .val (.ref b9), .unset] [(.ref b9)]))
            refine zq_go (fun _ kq => XS.iload Xq3.here hx rfl (hb hby at_260) rfl kq) ?_
            show zq_Go p e below s _ _ _ (Tq3.setTop (mkF m 262 #[.val (.long x0), .second, .val (.long x1), .second, .val (.long x2), .second, .val (.long x3), .second, .val (.int x4), .val (.int (Nat.toInt32 N)), .val (.int (Nat.toInt32 f)), .val (.int g), .val (.ref b1), .val (.ref b9), .unset] [(.int (Nat.toInt32 f)), (.ref b9)]))
            refine zq_go (fun _ kq => XS.iconst Xq3.here hx rfl (hb hby at_262) kq) ?_
            show zq_Go p e below s _ _ _ (Tq3.setTop (mkF m 263 #[.val (.long x0), .second, .val (.long x1), .second, .val (.long x2), .second, .val (.long x3), .second, .val (.int x4), .val (.int (Nat.toInt32 N)), .val (.int (Nat.toInt32 f)), .val (.int g), .val (.ref b1), .val (.ref b9), .unset] [(.int (4 : Int32)), (.int (Nat.toInt32 f)), (.ref b9)]))
            refine zq_go (fun _ kq => XS.iadd Xq3.here hx rfl (hb hby at_263) rfl kq) ?_
            show zq_Go p e below s _ _ _ (Tq3.setTop (mkF m 264 #[.val (.long x0), .second, .val (.long x1), .second, .val (.long x2), .second, .val (.long x3), .second, .val (.int x4), .val (.int (Nat.toInt32 N)), .val (.int (Nat.toInt32 f)), .val (.int g), .val (.ref b1), .val (.ref b9), .unset] [(.int ((Nat.toInt32 f) + (4 : Int32))), (.ref b9)]))
            refine zq_go (fun _ kq => XS.aload Xq3.here hx rfl (hb hby at_264) rfl rfl kq) ?_
            show zq_Go p e below s _ _ _ (Tq3.setTop (mkF m 266 #[.val (.long x0), .second, .val (.long x1), .second, .val (.long x2), .second, .val (.long x3), .second, .val (.int x4), .val (.int (Nat.toInt32 N)), .val (.int (Nat.toInt32 f)), .val (.int g), .val (.ref b1), .val (.ref b9), .unset] [(.ref b1), (.int ((Nat.toInt32 f) + (4 : Int32))), (.ref b9)]))
            refine zq_go (fun _ kq => XS.iconst Xq3.here hx rfl (hb hby at_266) kq) ?_
            show zq_Go p e below s _ _ _ (Tq3.setTop (mkF m 267 #[.val (.long x0), .second, .val (.long x1), .second, .val (.long x2), .second, .val (.long x3), .second, .val (.int x4), .val (.int (Nat.toInt32 N)), .val (.int (Nat.toInt32 f)), .val (.int g), .val (.ref b1), .val (.ref b9), .unset] [(.int (4 : Int32)), (.ref b1), (.int ((Nat.toInt32 f) + (4 : Int32))), (.ref b9)]))
            refine zq_go (zq_ldC Xq3 hx hZ eq3 A_b1 (j := (4 : Int32)) (i := 4) (by decide) (by decide) (by decide) (g := (mkF m 267 #[.val (.long x0), .second, .val (.long x1), .second, .val (.long x2), .second, .val (.long x3), .second, .val (.int x4), .val (.int (Nat.toInt32 N)), .val (.int (Nat.toInt32 f)), .val (.int g), .val (.ref b1), .val (.ref b9), .unset] [(.int (4 : Int32)), (.ref b1), (.int ((Nat.toInt32 f) + (4 : Int32))), (.ref b9)])) rfl rfl (hb hby at_267)) ?_
            show zq_Go p e below s _ _ _ (Tq3.setTop (mkF m 268 #[.val (.long x0), .second, .val (.long x1), .second, .val (.long x2), .second, .val (.long x3), .second, .val (.int x4), .val (.int (Nat.toInt32 N)), .val (.int (Nat.toInt32 f)), .val (.int g), .val (.ref b1), .val (.ref b9), .unset] [(.int c4), (.int ((Nat.toInt32 f) + (4 : Int32))), (.ref b9)]))
            obtain ⟨T26, h26, X26, e26, W26, A_b9, st26⟩ := zq_stC Xq3 hx hZ eq3 A_b9 (j := ((Nat.toInt32 f) + (4 : Int32))) (i := (f + 4)) (zq_ixc (k := 4) (by omega)) (zq_ixn (k := 4) (by omega)) (by omega) (g := (mkF m 268 #[.val (.long x0), .second, .val (.long x1), .second, .val (.long x2), .second, .val (.long x3), .second, .val (.int x4), .val (.int (Nat.toInt32 N)), .val (.int (Nat.toInt32 f)), .val (.int g), .val (.ref b1), .val (.ref b9), .unset] [(.int c4), (.int ((Nat.toInt32 f) + (4 : Int32))), (.ref b9)])) rfl rfl (hb hby at_268)
            refine zq_go st26 ?_
            have A_b1 := A_b1.other W26 ne_b1_b9
            have ZS := Nat.le_trans ZS (Keep.of_wr W26).1
            obtain ⟨L26, X26, NF⟩ : ∃ L : List Loc, Stand p l e room_1 s m #[(.long x0), (.long x1), (.long x2), (.long x3), (.int x4)] below meth c T26 L 2 19 ∧ Fr h0.size L := ⟨_, X26, Fr.snoc X26 NF g_b9⟩
            show zq_Go p e below s _ _ _ (T26.setTop (mkF m 269 #[.val (.long x0), .second, .val (.long x1), .second, .val (.long x2), .second, .val (.long x3), .second, .val (.int x4), .val (.int (Nat.toInt32 N)), .val (.int (Nat.toInt32 f)), .val (.int g), .val (.ref b1), .val (.ref b9), .unset] []))
            rw [zq_gg hc4] at A_b9
            exact J269 _ _ _ X26 e26 NF ZS (A_b9.congr (fun j _ => zq_arst (fun k => ([c0, c1, c2, c3, c4, c5, c6] : List Int32).getD k 0) g f N 4 hk4 j)) A_b1
          show zq_Go p e below s _ _ _ (Tq3.setTop (mkF m 252 #[.val (.long x0), .second, .val (.long x1), .second, .val (.long x2), .second, .val (.long x3), .second, .val (.int x4), .val (.int (Nat.toInt32 N)), .val (.int (Nat.toInt32 f)), .val (.int g), .val (.ref b1), .val (.ref b9), .unset] []))
          refine zq_go (fun _ kq => XS.iconst Xq3.here hx rfl (hb hby at_252) kq) ?_
          show zq_Go p e below s _ _ _ (Tq3.setTop (mkF m 253 #[.val (.long x0), .second, .val (.long x1), .second, .val (.long x2), .second, .val (.long x3), .second, .val (.int x4), .val (.int (Nat.toInt32 N)), .val (.int (Nat.toInt32 f)), .val (.int g), .val (.ref b1), .val (.ref b9), .unset] [(.int (4 : Int32))]))
          refine zq_go (fun _ kq => XS.iload Xq3.here hx rfl (hb hby at_253) rfl kq) ?_
          show zq_Go p e below s _ _ _ (Tq3.setTop (mkF m 255 #[.val (.long x0), .second, .val (.long x1), .second, .val (.long x2), .second, .val (.long x3), .second, .val (.int x4), .val (.int (Nat.toInt32 N)), .val (.int (Nat.toInt32 f)), .val (.int g), .val (.ref b1), .val (.ref b9), .unset] [(.int (Nat.toInt32 N)), (.int (4 : Int32))]))
          refine zq_go (fun _ kq => XS.icmpYes Xq3.here hx rfl (pc0 := 255) (pc' := 269) rfl (hb hby at_255) rfl (flt (fun q => hk4 ((zq_lt (i := 4) (by omega) (by omega)).mp q) : ¬ ((4 : Int32) < (Nat.toInt32 N)))).2.1 (by decide) (by decide) kq) ?_
          show zq_Go p e below s _ _ _ (Tq3.setTop (mkF m 269 #[.val (.long x0), .second, .val (.long x1), .second, .val (.long x2), .second, .val (.long x3), .second, .val (.int x4), .val (.int (Nat.toInt32 N)), .val (.int (Nat.toInt32 f)), .val (.int g), .val (.ref b1), .val (.ref b9), .unset] []))
          exact J269 _ _ _ Xq3 eq3 NF ZS (A_b9.congr (fun j hj => by rw [show min 4 N = min 5 N by omega])) A_b1
        by_cases hk3 : 3 < N
        ·
          show zq_Go p e below s _ _ _ (Tq2.setTop (mkF m 235 #[.val (.long x0), .second, .val (.long x1), .second, .val (.long x2), .second, .val (.long x3), .second, .val (.int x4), .val (.int (Nat.toInt32 N)), .val (.int (Nat.toInt32 f)), .val (.int g), .val (.ref b1), .val (.ref b9), .unset] []))
          refine zq_go (fun _ kq => XS.iconst Xq2.here hx rfl (hb hby at_235) kq) ?_
          show zq_Go p e below s _ _ _ (Tq2.setTop (mkF m 236 #[.val (.long x0), .second, .val (.long x1), .second, .val (.long x2), .second, .val (.long x3), .second, .val (.int x4), .val (.int (Nat.toInt32 N)), .val (.int (Nat.toInt32 f)), .val (.int g), .val (.ref b1), .val (.ref b9), .unset] [(.int (3 : Int32))]))
          refine zq_go (fun _ kq => XS.iload Xq2.here hx rfl (hb hby at_236) rfl kq) ?_
          show zq_Go p e below s _ _ _ (Tq2.setTop (mkF m 238 #[.val (.long x0), .second, .val (.long x1), .second, .val (.long x2), .second, .val (.long x3), .second, .val (.int x4), .val (.int (Nat.toInt32 N)), .val (.int (Nat.toInt32 f)), .val (.int g), .val (.ref b1), .val (.ref b9), .unset] [(.int (Nat.toInt32 N)), (.int (3 : Int32))]))
          refine zq_go (fun _ kq => XS.icmpNo Xq2.here hx rfl (hb hby at_238) rfl (tlt ((zq_lt (i := 3) (by omega) (by omega)).mpr hk3 : (3 : Int32) < (Nat.toInt32 N))).2.1 kq) ?_
          show zq_Go p e below s _ _ _ (Tq2.setTop (mkF m 241 #[.val (.long x0), .second, .val (.long x1), .second, .val (.long x2), .second, .val (.long x3), .second, .val (.int x4), .val (.int (Nat.toInt32 N)), .val (.int (Nat.toInt32 f)), .val (.int g), .val (.ref b1), .val (.ref b9), .unset] []))
          refine zq_go (fun _ kq => XS.aload Xq2.here hx rfl (hb hby at_241) rfl rfl kq) ?_
          show zq_Go p e below s _ _ _ (Tq2.setTop (mkF m 243 #[.val (.long x0), .second, .val (.long x1), .second, .val (.long x2), .second, .val (.long x3), .second, .val (.int x4), .val (.int (Nat.toInt32 N)), .val (.int (Nat.toInt32 f)), .val (.int g), .val (.ref b1), .val (.ref b9), .unset] [(.ref b9)]))
          refine zq_go (fun _ kq => XS.iload Xq2.here hx rfl (hb hby at_243) rfl kq) ?_
          show zq_Go p e below s _ _ _ (Tq2.setTop (mkF m 245 #[.val (.long x0), .second, .val (.long x1), .second, .val (.long x2), .second, .val (.long x3), .second, .val (.int x4), .val (.int (Nat.toInt32 N)), .val (.int (Nat.toInt32 f)), .val (.int g), .val (.ref b1), .val (.ref b9), .unset] [(.int (Nat.toInt32 f)), (.ref b9)]))
          refine zq_go (fun _ kq => XS.iconst Xq2.here hx rfl (hb hby at_245) kq) ?_
          show zq_Go p e below s _ _ _ (Tq2.setTop (mkF m 246 #[.val (.long x0), .second, .val (.long x1), .second, .val (.long x2), .second, .val (.long x3), .second, .val (.int x4), .val (.int (Nat.toInt32 N)), .val (.int (Nat.toInt32 f)), .val (.int g), .val (.ref b1), .val (.ref b9), .unset] [(.int (3 : Int32)), (.int (Nat.toInt32 f)), (.ref b9)]))
          refine zq_go (fun _ kq => XS.iadd Xq2.here hx rfl (hb hby at_246) rfl kq) ?_
          show zq_Go p e below s _ _ _ (Tq2.setTop (mkF m 247 #[.val (.long x0), .second, .val (.long x1), .second, .val (.long x2), .second, .val (.long x3), .second, .val (.int x4), .val (.int (Nat.toInt32 N)), .val (.int (Nat.toInt32 f)), .val (.int g), .val (.ref b1), .val (.ref b9), .unset] [(.int ((Nat.toInt32 f) + (3 : Int32))), (.ref b9)]))
          refine zq_go (fun _ kq => XS.aload Xq2.here hx rfl (hb hby at_247) rfl rfl kq) ?_
          show zq_Go p e below s _ _ _ (Tq2.setTop (mkF m 249 #[.val (.long x0), .second, .val (.long x1), .second, .val (.long x2), .second, .val (.long x3), .second, .val (.int x4), .val (.int (Nat.toInt32 N)), .val (.int (Nat.toInt32 f)), .val (.int g), .val (.ref b1), .val (.ref b9), .unset] [(.ref b1), (.int ((Nat.toInt32 f) + (3 : Int32))), (.ref b9)]))
          refine zq_go (fun _ kq => XS.iconst Xq2.here hx rfl (hb hby at_249) kq) ?_
          show zq_Go p e below s _ _ _ (Tq2.setTop (mkF m 250 #[.val (.long x0), .second, .val (.long x1), .second, .val (.long x2), .second, .val (.long x3), .second, .val (.int x4), .val (.int (Nat.toInt32 N)), .val (.int (Nat.toInt32 f)), .val (.int g), .val (.ref b1), .val (.ref b9), .unset] [(.int (3 : Int32)), (.ref b1), (.int ((Nat.toInt32 f) + (3 : Int32))), (.ref b9)]))
          refine zq_go (zq_ldC Xq2 hx hZ eq2 A_b1 (j := (3 : Int32)) (i := 3) (by decide) (by decide) (by decide) (g := (mkF m 250 #[.val (.long x0), .second, .val (.long x1), .second, .val (.long x2), .second, .val (.long x3), .second, .val (.int x4), .val (.int (Nat.toInt32 N)), .val (.int (Nat.toInt32 f)), .val (.int g), .val (.ref b1), .val (.ref b9), .unset] [(.int (3 : Int32)), (.ref b1), (.int ((Nat.toInt32 f) + (3 : Int32))), (.ref b9)])) rfl rfl (hb hby at_250)) ?_
          show zq_Go p e below s _ _ _ (Tq2.setTop (mkF m 251 #[.val (.long x0), .second, .val (.long x1), .second, .val (.long x2), .second, .val (.long x3), .second, .val (.int x4), .val (.int (Nat.toInt32 N)), .val (.int (Nat.toInt32 f)), .val (.int g), .val (.ref b1), .val (.ref b9), .unset] [(.int c3), (.int ((Nat.toInt32 f) + (3 : Int32))), (.ref b9)]))
          obtain ⟨T25, h25, X25, e25, W25, A_b9, st25⟩ := zq_stC Xq2 hx hZ eq2 A_b9 (j := ((Nat.toInt32 f) + (3 : Int32))) (i := (f + 3)) (zq_ixc (k := 3) (by omega)) (zq_ixn (k := 3) (by omega)) (by omega) (g := (mkF m 251 #[.val (.long x0), .second, .val (.long x1), .second, .val (.long x2), .second, .val (.long x3), .second, .val (.int x4), .val (.int (Nat.toInt32 N)), .val (.int (Nat.toInt32 f)), .val (.int g), .val (.ref b1), .val (.ref b9), .unset] [(.int c3), (.int ((Nat.toInt32 f) + (3 : Int32))), (.ref b9)])) rfl rfl (hb hby at_251)
          refine zq_go st25 ?_
          have A_b1 := A_b1.other W25 ne_b1_b9
          have ZS := Nat.le_trans ZS (Keep.of_wr W25).1
          obtain ⟨L25, X25, NF⟩ : ∃ L : List Loc, Stand p l e room_1 s m #[(.long x0), (.long x1), (.long x2), (.long x3), (.int x4)] below meth c T25 L 2 19 ∧ Fr h0.size L := ⟨_, X25, Fr.snoc X25 NF g_b9⟩
          show zq_Go p e below s _ _ _ (T25.setTop (mkF m 252 #[.val (.long x0), .second, .val (.long x1), .second, .val (.long x2), .second, .val (.long x3), .second, .val (.int x4), .val (.int (Nat.toInt32 N)), .val (.int (Nat.toInt32 f)), .val (.int g), .val (.ref b1), .val (.ref b9), .unset] []))
          rw [zq_gg hc3] at A_b9
          exact J252 _ _ _ X25 e25 NF ZS (A_b9.congr (fun j _ => zq_arst (fun k => ([c0, c1, c2, c3, c4, c5, c6] : List Int32).getD k 0) g f N 3 hk3 j)) A_b1
        show zq_Go p e below s _ _ _ (Tq2.setTop (mkF m 235 #[.val (.long x0), .second, .val (.long x1), .second, .val (.long x2), .second, .val (.long x3), .second, .val (.int x4), .val (.int (Nat.toInt32 N)), .val (.int (Nat.toInt32 f)), .val (.int g), .val (.ref b1), .val (.ref b9), .unset] []))
        refine zq_go (fun _ kq => XS.iconst Xq2.here hx rfl (hb hby at_235) kq) ?_
        show zq_Go p e below s _ _ _ (Tq2.setTop (mkF m 236 #[.val (.long x0), .second, .val (.long x1), .second, .val (.long x2), .second, .val (.long x3), .second, .val (.int x4), .val (.int (Nat.toInt32 N)), .val (.int (Nat.toInt32 f)), .val (.int g), .val (.ref b1), .val (.ref b9), .unset] [(.int (3 : Int32))]))
        refine zq_go (fun _ kq => XS.iload Xq2.here hx rfl (hb hby at_236) rfl kq) ?_
        show zq_Go p e below s _ _ _ (Tq2.setTop (mkF m 238 #[.val (.long x0), .second, .val (.long x1), .second, .val (.long x2), .second, .val (.long x3), .second, .val (.int x4), .val (.int (Nat.toInt32 N)), .val (.int (Nat.toInt32 f)), .val (.int g), .val (.ref b1), .val (.ref b9), .unset] [(.int (Nat.toInt32 N)), (.int (3 : Int32))]))
        refine zq_go (fun _ kq => XS.icmpYes Xq2.here hx rfl (pc0 := 238) (pc' := 252) rfl (hb hby at_238) rfl (flt (fun q => hk3 ((zq_lt (i := 3) (by omega) (by omega)).mp q) : ¬ ((3 : Int32) < (Nat.toInt32 N)))).2.1 (by decide) (by decide) kq) ?_
        show zq_Go p e below s _ _ _ (Tq2.setTop (mkF m 252 #[.val (.long x0), .second, .val (.long x1), .second, .val (.long x2), .second, .val (.long x3), .second, .val (.int x4), .val (.int (Nat.toInt32 N)), .val (.int (Nat.toInt32 f)), .val (.int g), .val (.ref b1), .val (.ref b9), .unset] []))
        exact J252 _ _ _ Xq2 eq2 NF ZS (A_b9.congr (fun j hj => by rw [show min 3 N = min 4 N by omega])) A_b1
      by_cases hk2 : 2 < N
      ·
        show zq_Go p e below s _ _ _ (Tq1.setTop (mkF m 218 #[.val (.long x0), .second, .val (.long x1), .second, .val (.long x2), .second, .val (.long x3), .second, .val (.int x4), .val (.int (Nat.toInt32 N)), .val (.int (Nat.toInt32 f)), .val (.int g), .val (.ref b1), .val (.ref b9), .unset] []))
        refine zq_go (fun _ kq => XS.iconst Xq1.here hx rfl (hb hby at_218) kq) ?_
        show zq_Go p e below s _ _ _ (Tq1.setTop (mkF m 219 #[.val (.long x0), .second, .val (.long x1), .second, .val (.long x2), .second, .val (.long x3), .second, .val (.int x4), .val (.int (Nat.toInt32 N)), .val (.int (Nat.toInt32 f)), .val (.int g), .val (.ref b1), .val (.ref b9), .unset] [(.int (2 : Int32))]))
        refine zq_go (fun _ kq => XS.iload Xq1.here hx rfl (hb hby at_219) rfl kq) ?_
        show zq_Go p e below s _ _ _ (Tq1.setTop (mkF m 221 #[.val (.long x0), .second, .val (.long x1), .second, .val (.long x2), .second, .val (.long x3), .second, .val (.int x4), .val (.int (Nat.toInt32 N)), .val (.int (Nat.toInt32 f)), .val (.int g), .val (.ref b1), .val (.ref b9), .unset] [(.int (Nat.toInt32 N)), (.int (2 : Int32))]))
        refine zq_go (fun _ kq => XS.icmpNo Xq1.here hx rfl (hb hby at_221) rfl (tlt ((zq_lt (i := 2) (by omega) (by omega)).mpr hk2 : (2 : Int32) < (Nat.toInt32 N))).2.1 kq) ?_
        show zq_Go p e below s _ _ _ (Tq1.setTop (mkF m 224 #[.val (.long x0), .second, .val (.long x1), .second, .val (.long x2), .second, .val (.long x3), .second, .val (.int x4), .val (.int (Nat.toInt32 N)), .val (.int (Nat.toInt32 f)), .val (.int g), .val (.ref b1), .val (.ref b9), .unset] []))
        refine zq_go (fun _ kq => XS.aload Xq1.here hx rfl (hb hby at_224) rfl rfl kq) ?_
        show zq_Go p e below s _ _ _ (Tq1.setTop (mkF m 226 #[.val (.long x0), .second, .val (.long x1), .second, .val (.long x2), .second, .val (.long x3), .second, .val (.int x4), .val (.int (Nat.toInt32 N)), .val (.int (Nat.toInt32 f)), .val (.int g), .val (.ref b1), .val (.ref b9), .unset] [(.ref b9)]))
        refine zq_go (fun _ kq => XS.iload Xq1.here hx rfl (hb hby at_226) rfl kq) ?_
        show zq_Go p e below s _ _ _ (Tq1.setTop (mkF m 228 #[.val (.long x0), .second, .val (.long x1), .second, .val (.long x2), .second, .val (.long x3), .second, .val (.int x4), .val (.int (Nat.toInt32 N)), .val (.int (Nat.toInt32 f)), .val (.int g), .val (.ref b1), .val (.ref b9), .unset] [(.int (Nat.toInt32 f)), (.ref b9)]))
        refine zq_go (fun _ kq => XS.iconst Xq1.here hx rfl (hb hby at_228) kq) ?_
        show zq_Go p e below s _ _ _ (Tq1.setTop (mkF m 229 #[.val (.long x0), .second, .val (.long x1), .second, .val (.long x2), .second, .val (.long x3), .second, .val (.int x4), .val (.int (Nat.toInt32 N)), .val (.int (Nat.toInt32 f)), .val (.int g), .val (.ref b1), .val (.ref b9), .unset] [(.int (2 : Int32)), (.int (Nat.toInt32 f)), (.ref b9)]))
        refine zq_go (fun _ kq => XS.iadd Xq1.here hx rfl (hb hby at_229) rfl kq) ?_
        show zq_Go p e below s _ _ _ (Tq1.setTop (mkF m 230 #[.val (.long x0), .second, .val (.long x1), .second, .val (.long x2), .second, .val (.long x3), .second, .val (.int x4), .val (.int (Nat.toInt32 N)), .val (.int (Nat.toInt32 f)), .val (.int g), .val (.ref b1), .val (.ref b9), .unset] [(.int ((Nat.toInt32 f) + (2 : Int32))), (.ref b9)]))
        refine zq_go (fun _ kq => XS.aload Xq1.here hx rfl (hb hby at_230) rfl rfl kq) ?_
        show zq_Go p e below s _ _ _ (Tq1.setTop (mkF m 232 #[.val (.long x0), .second, .val (.long x1), .second, .val (.long x2), .second, .val (.long x3), .second, .val (.int x4), .val (.int (Nat.toInt32 N)), .val (.int (Nat.toInt32 f)), .val (.int g), .val (.ref b1), .val (.ref b9), .unset] [(.ref b1), (.int ((Nat.toInt32 f) + (2 : Int32))), (.ref b9)]))
        refine zq_go (fun _ kq => XS.iconst Xq1.here hx rfl (hb hby at_232) kq) ?_
        show zq_Go p e below s _ _ _ (Tq1.setTop (mkF m 233 #[.val (.long x0), .second, .val (.long x1), .second, .val (.long x2), .second, .val (.long x3), .second, .val (.int x4), .val (.int (Nat.toInt32 N)), .val (.int (Nat.toInt32 f)), .val (.int g), .val (.ref b1), .val (.ref b9), .unset] [(.int (2 : Int32)), (.ref b1), (.int ((Nat.toInt32 f) + (2 : Int32))), (.ref b9)]))
        refine zq_go (zq_ldC Xq1 hx hZ eq1 A_b1 (j := (2 : Int32)) (i := 2) (by decide) (by decide) (by decide) (g := (mkF m 233 #[.val (.long x0), .second, .val (.long x1), .second, .val (.long x2), .second, .val (.long x3), .second, .val (.int x4), .val (.int (Nat.toInt32 N)), .val (.int (Nat.toInt32 f)), .val (.int g), .val (.ref b1), .val (.ref b9), .unset] [(.int (2 : Int32)), (.ref b1), (.int ((Nat.toInt32 f) + (2 : Int32))), (.ref b9)])) rfl rfl (hb hby at_233)) ?_
        show zq_Go p e below s _ _ _ (Tq1.setTop (mkF m 234 #[.val (.long x0), .second, .val (.long x1), .second, .val (.long x2), .second, .val (.long x3), .second, .val (.int x4), .val (.int (Nat.toInt32 N)), .val (.int (Nat.toInt32 f)), .val (.int g), .val (.ref b1), .val (.ref b9), .unset] [(.int c2), (.int ((Nat.toInt32 f) + (2 : Int32))), (.ref b9)]))
        obtain ⟨T24, h24, X24, e24, W24, A_b9, st24⟩ := zq_stC Xq1 hx hZ eq1 A_b9 (j := ((Nat.toInt32 f) + (2 : Int32))) (i := (f + 2)) (zq_ixc (k := 2) (by omega)) (zq_ixn (k := 2) (by omega)) (by omega) (g := (mkF m 234 #[.val (.long x0), .second, .val (.long x1), .second, .val (.long x2), .second, .val (.long x3), .second, .val (.int x4), .val (.int (Nat.toInt32 N)), .val (.int (Nat.toInt32 f)), .val (.int g), .val (.ref b1), .val (.ref b9), .unset] [(.int c2), (.int ((Nat.toInt32 f) + (2 : Int32))), (.ref b9)])) rfl rfl (hb hby at_234)
        refine zq_go st24 ?_
        have A_b1 := A_b1.other W24 ne_b1_b9
        have ZS := Nat.le_trans ZS (Keep.of_wr W24).1
        obtain ⟨L24, X24, NF⟩ : ∃ L : List Loc, Stand p l e room_1 s m #[(.long x0), (.long x1), (.long x2), (.long x3), (.int x4)] below meth c T24 L 2 19 ∧ Fr h0.size L := ⟨_, X24, Fr.snoc X24 NF g_b9⟩
        show zq_Go p e below s _ _ _ (T24.setTop (mkF m 235 #[.val (.long x0), .second, .val (.long x1), .second, .val (.long x2), .second, .val (.long x3), .second, .val (.int x4), .val (.int (Nat.toInt32 N)), .val (.int (Nat.toInt32 f)), .val (.int g), .val (.ref b1), .val (.ref b9), .unset] []))
        rw [zq_gg hc2] at A_b9
        exact J235 _ _ _ X24 e24 NF ZS (A_b9.congr (fun j _ => zq_arst (fun k => ([c0, c1, c2, c3, c4, c5, c6] : List Int32).getD k 0) g f N 2 hk2 j)) A_b1
      show zq_Go p e below s _ _ _ (Tq1.setTop (mkF m 218 #[.val (.long x0), .second, .val (.long x1), .second, .val (.long x2), .second, .val (.long x3), .second, .val (.int x4), .val (.int (Nat.toInt32 N)), .val (.int (Nat.toInt32 f)), .val (.int g), .val (.ref b1), .val (.ref b9), .unset] []))
      refine zq_go (fun _ kq => XS.iconst Xq1.here hx rfl (hb hby at_218) kq) ?_
      show zq_Go p e below s _ _ _ (Tq1.setTop (mkF m 219 #[.val (.long x0), .second, .val (.long x1), .second, .val (.long x2), .second, .val (.long x3), .second, .val (.int x4), .val (.int (Nat.toInt32 N)), .val (.int (Nat.toInt32 f)), .val (.int g), .val (.ref b1), .val (.ref b9), .unset] [(.int (2 : Int32))]))
      refine zq_go (fun _ kq => XS.iload Xq1.here hx rfl (hb hby at_219) rfl kq) ?_
      show zq_Go p e below s _ _ _ (Tq1.setTop (mkF m 221 #[.val (.long x0), .second, .val (.long x1), .second, .val (.long x2), .second, .val (.long x3), .second, .val (.int x4), .val (.int (Nat.toInt32 N)), .val (.int (Nat.toInt32 f)), .val (.int g), .val (.ref b1), .val (.ref b9), .unset] [(.int (Nat.toInt32 N)), (.int (2 : Int32))]))
      refine zq_go (fun _ kq => XS.icmpYes Xq1.here hx rfl (pc0 := 221) (pc' := 235) rfl (hb hby at_221) rfl (flt (fun q => hk2 ((zq_lt (i := 2) (by omega) (by omega)).mp q) : ¬ ((2 : Int32) < (Nat.toInt32 N)))).2.1 (by decide) (by decide) kq) ?_
      show zq_Go p e below s _ _ _ (Tq1.setTop (mkF m 235 #[.val (.long x0), .second, .val (.long x1), .second, .val (.long x2), .second, .val (.long x3), .second, .val (.int x4), .val (.int (Nat.toInt32 N)), .val (.int (Nat.toInt32 f)), .val (.int g), .val (.ref b1), .val (.ref b9), .unset] []))
      exact J235 _ _ _ Xq1 eq1 NF ZS (A_b9.congr (fun j hj => by rw [show min 2 N = min 3 N by omega])) A_b1
    by_cases hk1 : 1 < N
    ·
      show zq_Go p e below s _ _ _ (Tq0.setTop (mkF m 201 #[.val (.long x0), .second, .val (.long x1), .second, .val (.long x2), .second, .val (.long x3), .second, .val (.int x4), .val (.int (Nat.toInt32 N)), .val (.int (Nat.toInt32 f)), .val (.int g), .val (.ref b1), .val (.ref b9), .unset] []))
      refine zq_go (fun _ kq => XS.iconst Xq0.here hx rfl (hb hby at_201) kq) ?_
      show zq_Go p e below s _ _ _ (Tq0.setTop (mkF m 202 #[.val (.long x0), .second, .val (.long x1), .second, .val (.long x2), .second, .val (.long x3), .second, .val (.int x4), .val (.int (Nat.toInt32 N)), .val (.int (Nat.toInt32 f)), .val (.int g), .val (.ref b1), .val (.ref b9), .unset] [(.int (1 : Int32))]))
      refine zq_go (fun _ kq => XS.iload Xq0.here hx rfl (hb hby at_202) rfl kq) ?_
      show zq_Go p e below s _ _ _ (Tq0.setTop (mkF m 204 #[.val (.long x0), .second, .val (.long x1), .second, .val (.long x2), .second, .val (.long x3), .second, .val (.int x4), .val (.int (Nat.toInt32 N)), .val (.int (Nat.toInt32 f)), .val (.int g), .val (.ref b1), .val (.ref b9), .unset] [(.int (Nat.toInt32 N)), (.int (1 : Int32))]))
      refine zq_go (fun _ kq => XS.icmpNo Xq0.here hx rfl (hb hby at_204) rfl (tlt ((zq_lt (i := 1) (by omega) (by omega)).mpr hk1 : (1 : Int32) < (Nat.toInt32 N))).2.1 kq) ?_
      show zq_Go p e below s _ _ _ (Tq0.setTop (mkF m 207 #[.val (.long x0), .second, .val (.long x1), .second, .val (.long x2), .second, .val (.long x3), .second, .val (.int x4), .val (.int (Nat.toInt32 N)), .val (.int (Nat.toInt32 f)), .val (.int g), .val (.ref b1), .val (.ref b9), .unset] []))
      refine zq_go (fun _ kq => XS.aload Xq0.here hx rfl (hb hby at_207) rfl rfl kq) ?_
      show zq_Go p e below s _ _ _ (Tq0.setTop (mkF m 209 #[.val (.long x0), .second, .val (.long x1), .second, .val (.long x2), .second, .val (.long x3), .second, .val (.int x4), .val (.int (Nat.toInt32 N)), .val (.int (Nat.toInt32 f)), .val (.int g), .val (.ref b1), .val (.ref b9), .unset] [(.ref b9)]))
      refine zq_go (fun _ kq => XS.iload Xq0.here hx rfl (hb hby at_209) rfl kq) ?_
      show zq_Go p e below s _ _ _ (Tq0.setTop (mkF m 211 #[.val (.long x0), .second, .val (.long x1), .second, .val (.long x2), .second, .val (.long x3), .second, .val (.int x4), .val (.int (Nat.toInt32 N)), .val (.int (Nat.toInt32 f)), .val (.int g), .val (.ref b1), .val (.ref b9), .unset] [(.int (Nat.toInt32 f)), (.ref b9)]))
      refine zq_go (fun _ kq => XS.iconst Xq0.here hx rfl (hb hby at_211) kq) ?_
      show zq_Go p e below s _ _ _ (Tq0.setTop (mkF m 212 #[.val (.long x0), .second, .val (.long x1), .second, .val (.long x2), .second, .val (.long x3), .second, .val (.int x4), .val (.int (Nat.toInt32 N)), .val (.int (Nat.toInt32 f)), .val (.int g), .val (.ref b1), .val (.ref b9), .unset] [(.int (1 : Int32)), (.int (Nat.toInt32 f)), (.ref b9)]))
      refine zq_go (fun _ kq => XS.iadd Xq0.here hx rfl (hb hby at_212) rfl kq) ?_
      show zq_Go p e below s _ _ _ (Tq0.setTop (mkF m 213 #[.val (.long x0), .second, .val (.long x1), .second, .val (.long x2), .second, .val (.long x3), .second, .val (.int x4), .val (.int (Nat.toInt32 N)), .val (.int (Nat.toInt32 f)), .val (.int g), .val (.ref b1), .val (.ref b9), .unset] [(.int ((Nat.toInt32 f) + (1 : Int32))), (.ref b9)]))
      refine zq_go (fun _ kq => XS.aload Xq0.here hx rfl (hb hby at_213) rfl rfl kq) ?_
      show zq_Go p e below s _ _ _ (Tq0.setTop (mkF m 215 #[.val (.long x0), .second, .val (.long x1), .second, .val (.long x2), .second, .val (.long x3), .second, .val (.int x4), .val (.int (Nat.toInt32 N)), .val (.int (Nat.toInt32 f)), .val (.int g), .val (.ref b1), .val (.ref b9), .unset] [(.ref b1), (.int ((Nat.toInt32 f) + (1 : Int32))), (.ref b9)]))
      refine zq_go (fun _ kq => XS.iconst Xq0.here hx rfl (hb hby at_215) kq) ?_
      show zq_Go p e below s _ _ _ (Tq0.setTop (mkF m 216 #[.val (.long x0), .second, .val (.long x1), .second, .val (.long x2), .second, .val (.long x3), .second, .val (.int x4), .val (.int (Nat.toInt32 N)), .val (.int (Nat.toInt32 f)), .val (.int g), .val (.ref b1), .val (.ref b9), .unset] [(.int (1 : Int32)), (.ref b1), (.int ((Nat.toInt32 f) + (1 : Int32))), (.ref b9)]))
      refine zq_go (zq_ldC Xq0 hx hZ eq0 A_b1 (j := (1 : Int32)) (i := 1) (by decide) (by decide) (by decide) (g := (mkF m 216 #[.val (.long x0), .second, .val (.long x1), .second, .val (.long x2), .second, .val (.long x3), .second, .val (.int x4), .val (.int (Nat.toInt32 N)), .val (.int (Nat.toInt32 f)), .val (.int g), .val (.ref b1), .val (.ref b9), .unset] [(.int (1 : Int32)), (.ref b1), (.int ((Nat.toInt32 f) + (1 : Int32))), (.ref b9)])) rfl rfl (hb hby at_216)) ?_
      show zq_Go p e below s _ _ _ (Tq0.setTop (mkF m 217 #[.val (.long x0), .second, .val (.long x1), .second, .val (.long x2), .second, .val (.long x3), .second, .val (.int x4), .val (.int (Nat.toInt32 N)), .val (.int (Nat.toInt32 f)), .val (.int g), .val (.ref b1), .val (.ref b9), .unset] [(.int c1), (.int ((Nat.toInt32 f) + (1 : Int32))), (.ref b9)]))
      obtain ⟨T23, h23, X23, e23, W23, A_b9, st23⟩ := zq_stC Xq0 hx hZ eq0 A_b9 (j := ((Nat.toInt32 f) + (1 : Int32))) (i := (f + 1)) (zq_ixc (k := 1) (by omega)) (zq_ixn (k := 1) (by omega)) (by omega) (g := (mkF m 217 #[.val (.long x0), .second, .val (.long x1), .second, .val (.long x2), .second, .val (.long x3), .second, .val (.int x4), .val (.int (Nat.toInt32 N)), .val (.int (Nat.toInt32 f)), .val (.int g), .val (.ref b1), .val (.ref b9), .unset] [(.int c1), (.int ((Nat.toInt32 f) + (1 : Int32))), (.ref b9)])) rfl rfl (hb hby at_217)
      refine zq_go st23 ?_
      have A_b1 := A_b1.other W23 ne_b1_b9
      have ZS := Nat.le_trans ZS (Keep.of_wr W23).1
      obtain ⟨L23, X23, NF⟩ : ∃ L : List Loc, Stand p l e room_1 s m #[(.long x0), (.long x1), (.long x2), (.long x3), (.int x4)] below meth c T23 L 2 19 ∧ Fr h0.size L := ⟨_, X23, Fr.snoc X23 NF g_b9⟩
      show zq_Go p e below s _ _ _ (T23.setTop (mkF m 218 #[.val (.long x0), .second, .val (.long x1), .second, .val (.long x2), .second, .val (.long x3), .second, .val (.int x4), .val (.int (Nat.toInt32 N)), .val (.int (Nat.toInt32 f)), .val (.int g), .val (.ref b1), .val (.ref b9), .unset] []))
      rw [zq_gg hc1] at A_b9
      exact J218 _ _ _ X23 e23 NF ZS (A_b9.congr (fun j _ => zq_arst (fun k => ([c0, c1, c2, c3, c4, c5, c6] : List Int32).getD k 0) g f N 1 hk1 j)) A_b1
    show zq_Go p e below s _ _ _ (Tq0.setTop (mkF m 201 #[.val (.long x0), .second, .val (.long x1), .second, .val (.long x2), .second, .val (.long x3), .second, .val (.int x4), .val (.int (Nat.toInt32 N)), .val (.int (Nat.toInt32 f)), .val (.int g), .val (.ref b1), .val (.ref b9), .unset] []))
    refine zq_go (fun _ kq => XS.iconst Xq0.here hx rfl (hb hby at_201) kq) ?_
    show zq_Go p e below s _ _ _ (Tq0.setTop (mkF m 202 #[.val (.long x0), .second, .val (.long x1), .second, .val (.long x2), .second, .val (.long x3), .second, .val (.int x4), .val (.int (Nat.toInt32 N)), .val (.int (Nat.toInt32 f)), .val (.int g), .val (.ref b1), .val (.ref b9), .unset] [(.int (1 : Int32))]))
    refine zq_go (fun _ kq => XS.iload Xq0.here hx rfl (hb hby at_202) rfl kq) ?_
    show zq_Go p e below s _ _ _ (Tq0.setTop (mkF m 204 #[.val (.long x0), .second, .val (.long x1), .second, .val (.long x2), .second, .val (.long x3), .second, .val (.int x4), .val (.int (Nat.toInt32 N)), .val (.int (Nat.toInt32 f)), .val (.int g), .val (.ref b1), .val (.ref b9), .unset] [(.int (Nat.toInt32 N)), (.int (1 : Int32))]))
    refine zq_go (fun _ kq => XS.icmpYes Xq0.here hx rfl (pc0 := 204) (pc' := 218) rfl (hb hby at_204) rfl (flt (fun q => hk1 ((zq_lt (i := 1) (by omega) (by omega)).mp q) : ¬ ((1 : Int32) < (Nat.toInt32 N)))).2.1 (by decide) (by decide) kq) ?_
    show zq_Go p e below s _ _ _ (Tq0.setTop (mkF m 218 #[.val (.long x0), .second, .val (.long x1), .second, .val (.long x2), .second, .val (.long x3), .second, .val (.int x4), .val (.int (Nat.toInt32 N)), .val (.int (Nat.toInt32 f)), .val (.int g), .val (.ref b1), .val (.ref b9), .unset] []))
    exact J218 _ _ _ Xq0 eq0 NF ZS (A_b9.congr (fun j hj => by rw [show min 1 N = min 2 N by omega])) A_b1
  by_cases hk0 : 0 < N
  ·
    show zq_Go p e below s _ _ _ (T21.setTop (mkF m 186 #[.val (.long x0), .second, .val (.long x1), .second, .val (.long x2), .second, .val (.long x3), .second, .val (.int x4), .val (.int (Nat.toInt32 N)), .val (.int (Nat.toInt32 f)), .val (.int g), .val (.ref b1), .val (.ref b9), .unset] []))
    refine zq_go (fun _ kq => XS.iconst X21.here hx rfl (hb hby at_186) kq) ?_
    show zq_Go p e below s _ _ _ (T21.setTop (mkF m 187 #[.val (.long x0), .second, .val (.long x1), .second, .val (.long x2), .second, .val (.long x3), .second, .val (.int x4), .val (.int (Nat.toInt32 N)), .val (.int (Nat.toInt32 f)), .val (.int g), .val (.ref b1), .val (.ref b9), .unset] [(.int (0 : Int32))]))
    refine zq_go (fun _ kq => XS.iload X21.here hx rfl (hb hby at_187) rfl kq) ?_
    show zq_Go p e below s _ _ _ (T21.setTop (mkF m 189 #[.val (.long x0), .second, .val (.long x1), .second, .val (.long x2), .second, .val (.long x3), .second, .val (.int x4), .val (.int (Nat.toInt32 N)), .val (.int (Nat.toInt32 f)), .val (.int g), .val (.ref b1), .val (.ref b9), .unset] [(.int (Nat.toInt32 N)), (.int (0 : Int32))]))
    refine zq_go (fun _ kq => XS.icmpNo X21.here hx rfl (hb hby at_189) rfl (tlt ((zq_lt (i := 0) (by omega) (by omega)).mpr hk0 : (0 : Int32) < (Nat.toInt32 N))).2.1 kq) ?_
    show zq_Go p e below s _ _ _ (T21.setTop (mkF m 192 #[.val (.long x0), .second, .val (.long x1), .second, .val (.long x2), .second, .val (.long x3), .second, .val (.int x4), .val (.int (Nat.toInt32 N)), .val (.int (Nat.toInt32 f)), .val (.int g), .val (.ref b1), .val (.ref b9), .unset] []))
    refine zq_go (fun _ kq => XS.aload X21.here hx rfl (hb hby at_192) rfl rfl kq) ?_
    show zq_Go p e below s _ _ _ (T21.setTop (mkF m 194 #[.val (.long x0), .second, .val (.long x1), .second, .val (.long x2), .second, .val (.long x3), .second, .val (.int x4), .val (.int (Nat.toInt32 N)), .val (.int (Nat.toInt32 f)), .val (.int g), .val (.ref b1), .val (.ref b9), .unset] [(.ref b9)]))
    refine zq_go (fun _ kq => XS.iload X21.here hx rfl (hb hby at_194) rfl kq) ?_
    show zq_Go p e below s _ _ _ (T21.setTop (mkF m 196 #[.val (.long x0), .second, .val (.long x1), .second, .val (.long x2), .second, .val (.long x3), .second, .val (.int x4), .val (.int (Nat.toInt32 N)), .val (.int (Nat.toInt32 f)), .val (.int g), .val (.ref b1), .val (.ref b9), .unset] [(.int (Nat.toInt32 f)), (.ref b9)]))
    refine zq_go (fun _ kq => XS.aload X21.here hx rfl (hb hby at_196) rfl rfl kq) ?_
    show zq_Go p e below s _ _ _ (T21.setTop (mkF m 198 #[.val (.long x0), .second, .val (.long x1), .second, .val (.long x2), .second, .val (.long x3), .second, .val (.int x4), .val (.int (Nat.toInt32 N)), .val (.int (Nat.toInt32 f)), .val (.int g), .val (.ref b1), .val (.ref b9), .unset] [(.ref b1), (.int (Nat.toInt32 f)), (.ref b9)]))
    refine zq_go (fun _ kq => XS.iconst X21.here hx rfl (hb hby at_198) kq) ?_
    show zq_Go p e below s _ _ _ (T21.setTop (mkF m 199 #[.val (.long x0), .second, .val (.long x1), .second, .val (.long x2), .second, .val (.long x3), .second, .val (.int x4), .val (.int (Nat.toInt32 N)), .val (.int (Nat.toInt32 f)), .val (.int g), .val (.ref b1), .val (.ref b9), .unset] [(.int (0 : Int32)), (.ref b1), (.int (Nat.toInt32 f)), (.ref b9)]))
    refine zq_go (zq_ldC X21 hx hZ e21 A_b1 (j := (0 : Int32)) (i := 0) (by decide) (by decide) (by decide) (g := (mkF m 199 #[.val (.long x0), .second, .val (.long x1), .second, .val (.long x2), .second, .val (.long x3), .second, .val (.int x4), .val (.int (Nat.toInt32 N)), .val (.int (Nat.toInt32 f)), .val (.int g), .val (.ref b1), .val (.ref b9), .unset] [(.int (0 : Int32)), (.ref b1), (.int (Nat.toInt32 f)), (.ref b9)])) rfl rfl (hb hby at_199)) ?_
    show zq_Go p e below s _ _ _ (T21.setTop (mkF m 200 #[.val (.long x0), .second, .val (.long x1), .second, .val (.long x2), .second, .val (.long x3), .second, .val (.int x4), .val (.int (Nat.toInt32 N)), .val (.int (Nat.toInt32 f)), .val (.int g), .val (.ref b1), .val (.ref b9), .unset] [(.int c0), (.int (Nat.toInt32 f)), (.ref b9)]))
    obtain ⟨T22, h22, X22, e22, W22, A_b9, st22⟩ := zq_stC X21 hx hZ e21 A_b9 (j := (Nat.toInt32 f)) (i := f) (zq_cl (by omega)) (zq_nn (by omega)) (by omega) (g := (mkF m 200 #[.val (.long x0), .second, .val (.long x1), .second, .val (.long x2), .second, .val (.long x3), .second, .val (.int x4), .val (.int (Nat.toInt32 N)), .val (.int (Nat.toInt32 f)), .val (.int g), .val (.ref b1), .val (.ref b9), .unset] [(.int c0), (.int (Nat.toInt32 f)), (.ref b9)])) rfl rfl (hb hby at_200)
    refine zq_go st22 ?_
    have A_b1 := A_b1.other W22 ne_b1_b9
    have ZS := Nat.le_trans ZS (Keep.of_wr W22).1
    obtain ⟨L22, X22, NF⟩ : ∃ L : List Loc, Stand p l e room_1 s m #[(.long x0), (.long x1), (.long x2), (.long x3), (.int x4)] below meth c T22 L 2 19 ∧ Fr h0.size L := ⟨_, X22, Fr.snoc X22 NF g_b9⟩
    show zq_Go p e below s _ _ _ (T22.setTop (mkF m 201 #[.val (.long x0), .second, .val (.long x1), .second, .val (.long x2), .second, .val (.long x3), .second, .val (.int x4), .val (.int (Nat.toInt32 N)), .val (.int (Nat.toInt32 f)), .val (.int g), .val (.ref b1), .val (.ref b9), .unset] []))
    rw [zq_gg hc0] at A_b9
    exact J201 _ _ _ X22 e22 NF ZS (A_b9.congr (fun j _ => zq_arst (fun k => ([c0, c1, c2, c3, c4, c5, c6] : List Int32).getD k 0) g f N 0 hk0 j)) A_b1
  show zq_Go p e below s _ _ _ (T21.setTop (mkF m 186 #[.val (.long x0), .second, .val (.long x1), .second, .val (.long x2), .second, .val (.long x3), .second, .val (.int x4), .val (.int (Nat.toInt32 N)), .val (.int (Nat.toInt32 f)), .val (.int g), .val (.ref b1), .val (.ref b9), .unset] []))
  refine zq_go (fun _ kq => XS.iconst X21.here hx rfl (hb hby at_186) kq) ?_
  show zq_Go p e below s _ _ _ (T21.setTop (mkF m 187 #[.val (.long x0), .second, .val (.long x1), .second, .val (.long x2), .second, .val (.long x3), .second, .val (.int x4), .val (.int (Nat.toInt32 N)), .val (.int (Nat.toInt32 f)), .val (.int g), .val (.ref b1), .val (.ref b9), .unset] [(.int (0 : Int32))]))
  refine zq_go (fun _ kq => XS.iload X21.here hx rfl (hb hby at_187) rfl kq) ?_
  show zq_Go p e below s _ _ _ (T21.setTop (mkF m 189 #[.val (.long x0), .second, .val (.long x1), .second, .val (.long x2), .second, .val (.long x3), .second, .val (.int x4), .val (.int (Nat.toInt32 N)), .val (.int (Nat.toInt32 f)), .val (.int g), .val (.ref b1), .val (.ref b9), .unset] [(.int (Nat.toInt32 N)), (.int (0 : Int32))]))
  refine zq_go (fun _ kq => XS.icmpYes X21.here hx rfl (pc0 := 189) (pc' := 201) rfl (hb hby at_189) rfl (flt (fun q => hk0 ((zq_lt (i := 0) (by omega) (by omega)).mp q) : ¬ ((0 : Int32) < (Nat.toInt32 N)))).2.1 (by decide) (by decide) kq) ?_
  show zq_Go p e below s _ _ _ (T21.setTop (mkF m 201 #[.val (.long x0), .second, .val (.long x1), .second, .val (.long x2), .second, .val (.long x3), .second, .val (.int x4), .val (.int (Nat.toInt32 N)), .val (.int (Nat.toInt32 f)), .val (.int g), .val (.ref b1), .val (.ref b9), .unset] []))
  exact J201 _ _ _ X21 e21 NF ZS (A_b9.congr (fun j hj => by rw [show min 0 N = min 1 N by omega])) A_b1
set_option maxRecDepth 65536 in
set_option maxHeartbeats 40000000 in
theorem zq_comes {Post : Tables → Env → Array Value → State → Outcome → State → Prop} (hpost : ∀ tb e args s v u, (limb_1_1.after args s (.returned v) u = true ∧ limb_1_2.after args s (.returned v) u = true ∧ True) → FrameEnd s (.returned v) u (Jvm.fieldLocs frame_1_writes args s ++ Jvm.arrayLocs frame_1_arrays args s ++ Jvm.staticLocs frame_1_statics s) 24 128 → Post tb e args s (.returned v) u) :
    ArmFor flags0 classFile x code maxLocals ret World_1 tables_1 room_1 Calls_1 rest_1 Pre_1 Post := by
  intro l hfl _ _ p e ha hc hk s m args below hf hA hF happ hP
  obtain ⟨hcalls, hrest, hpre⟩ := hP
  obtain ⟨-, -, -, hnamed, -, -, -, hat⟩ := (Spec.applies_iff hf).mp happ
  obtain ⟨hg, hn⟩ := and_e (Cond.before_iff.mp (show (Jvm.Cond.and given_1 narrow_1).before args s = true from hpre))
  obtain ⟨g0, t0⟩ := and_e hg
  obtain ⟨g1, t1⟩ := and_e t0
  obtain ⟨g2, t2⟩ := and_e t1
  obtain ⟨g3, t3⟩ := and_e t2
  obtain ⟨g4, t4⟩ := and_e t3
  obtain ⟨w0, w1, w2, w3, w4, rfl⟩ : ∃ w0 w1 w2 w3 w4 : Value, args = #[w0, w1, w2, w3, w4] := by
    have hs : args.size = 5 := by simpa [Cond.value, given_1] using g0
    obtain ⟨L⟩ := args
    match L, hs with
    | [w0, w1, w2, w3, w4], _ => exact ⟨w0, w1, w2, w3, w4, rfl⟩
  have hw := fun d (hd : d ∈ tables_1) => atoms_spec (ws := Jvm.Cond.code x code maxLocals ret :: tables_1) hat d (List.mem_cons_of_mem _ hd)
  obtain ⟨i0, ei0⟩ := isL_v g1
  obtain rfl : w0 = (.long i0) := Option.some.inj ei0
  obtain ⟨i1, ei1⟩ := isL_v g2
  obtain rfl : w1 = (.long i1) := Option.some.inj ei1
  obtain ⟨i2, ei2⟩ := isL_v g3
  obtain rfl : w2 = (.long i2) := Option.some.inj ei2
  obtain ⟨i3, ei3⟩ := isL_v g4
  obtain rfl : w3 = (.long i3) := Option.some.inj ei3
  obtain ⟨i4, ei4⟩ := is_v t4
  obtain rfl : w4 = (.int i4) := Option.some.inj ei4
  obtain ⟨n, o, h1, h2, h3, _, L, rfl, ⟨rfl, N⟩, hq⟩ := zq_rm0 l s _ hw tables_1 i0 i1 i2 i3 i4 s.heap p e ha hc hk s m _ below hf ((Spec.applies_iff_loose hf).mp happ).1 ⟨rfl, State.Warmed39.refl s, rfl⟩ trivial
  refine ⟨n, _, h1, h2, h3, hpost _ _ _ _ _ _ ⟨Cond.after_iff.mpr rfl, Cond.after_iff.mpr (eq_i res_at (Term.int_eval (1)) rfl), trivial⟩ ⟨hq.1, hq.2.1, (hq.2.2.sift fun y hy => Or.inr (N y hy)).mono (by decide) (by decide)⟩⟩
theorem main_1_1 : Claimed_1_1 := zq_comes fun _ _ _ _ _ _ h hF => ⟨h.1, hF⟩
theorem main_1_2 : Claimed_1_2 := zq_comes fun _ _ _ _ _ _ h hF => ⟨h.2.1, hF⟩
end Jvm.Pilot.@@N@@
namespace Jvm.Pilot.@@N@@
open Jvm Jvm.ClassFile Sem Op Lib Jvm.Free Jvm.Stand Jvm.Pilot.@@N@@.Jvm.D
/-! MADE BY PROGRAM (witnessworld.py) out of the Statement's table words and the real class files: 19 classes; the members and pool entries that the words name. The judged class is class 1, her method 1. -/
namespace start1
open Jvm.ClassFile
def u (s : String) : CpInfo := .utf8 (stringToUtf16 s)
/-- a pool by its gaps: so many unusable entries, then the entry; so many at the end -/
def gap : Nat → List CpInfo → List CpInfo
  | 0, r => r
  | n + 1, r => .unusable :: gap n r
def poolList (es : List (Nat × CpInfo)) (last : Nat) : List CpInfo := es.foldr (fun e r => gap e.1 (e.2 :: r)) (gap last [])
def pool (es : List (Nat × CpInfo)) (last : Nat) : Array CpInfo := ⟨poolList es last⟩
def fileOf (pool : Array CpInfo) (this : Nat) (attrs : Array Attribute := #[]) (ms : Array MethodInfo := #[]) (fl : Nat := 33) (sup : Nat := 0) (ifs : Array Nat := #[]) (fds : Array FieldInfo := #[]) : ClassFile where
  minorVersion := 0
  majorVersion := 65
  constantPool := pool
  accessFlags := fl
  thisClass := this
  superClass := sup
  interfaces := ifs
  fields := fds
  methods := ms
  attributes := attrs
def plain (name : String) (sup : Option ClassId) : Class where
  name := name
  kind := .ordinary
  loader := none
  accessFlags := 33
  super := sup
  interfaces := #[]
  cf := none
  fields := #[]
  methods := #[]
  instanceTypes := #[]
  staticTypes := #[]
  resolved := #[]
  callSites := []
  init := .initialized
  statics := none
  mirror := none

def pool0 : Array CpInfo := pool [(5, u "<init>"), (0, u "()V"), (1, .class_ 10), (1, u "java/lang/Object")] 113

def k0c0 : Code := { maxStack := 0, maxLocals := 1, code := object_method_1_code, exceptionTable := #[], attributes := #[] }
def k0m0 : Method := { name := "<init>", desc := "()V", sig := { parameters := [], returnType := none }, accessFlags := 1, code := some k0c0 }
/-- java/lang/Object -/
def k0 : Class := { plain "java/lang/Object" none with
  accessFlags := 33
  interfaces := #[]
  cf := some (fileOf pool0 8 #[] #[{ accessFlags := 1, nameIndex := 5, descriptorIndex := 6, attributes := #[] }] 33 0 #[] #[])
  fields := #[]
  methods := #[k0m0]
  instanceTypes := #[]
  staticTypes := #[]
  resolved := Array.replicate 124 none
  statics := none }

def pool1 : Array CpInfo := pool [(2, .class_ 4), (1, u "java/lang/Object"), (0, u "<init>"), (0, u "()V"), (0, .class_ 8), (0, u "com/example/clearline/clearline/formats/TableHash"), (0, .methodref 7 10), (0, .nameAndType 5 11), (0, u "(JJ)V"), (0, .methodref 7 13), (0, .nameAndType 14 15), (0, u "of"), (0, u "([CII)I"), (0, .methodref 17 18), (0, .class_ 19), (0, .nameAndType 20 21), (0, u "com/example/clearline/clearline/formats/TableHashOfPinLaw"), (0, u "reference"), (0, u "(JJ[CI)I"), (0, .long 8317987319222330741), (1, .long 7237128888997146477), (1, .long 7816392313619706465), (1, .long 8387220255154660723), (1, .methodref 17 31), (0, .nameAndType 32 33), (0, u "word"), (0, u "([CII)J"), (0, .methodref 17 35), (0, .nameAndType 36 37), (0, u "compress"), (0, u "([JJ)V"), (0, .long 255), (1, .methodref 17 41), (0, .nameAndType 42 43), (0, u "round"), (0, u "([J)V"), (0, .methodref 17 45), (0, .nameAndType 46 33), (0, u "byteAt"), (0, .methodref 17 48), (0, .nameAndType 49 50), (0, u "rotl"), (0, u "(JI)J"), (2, u "law"), (0, u "(JJJJI)Z")] 7

def k1m0 : Method := { name := "<init>", desc := "()V", sig := { parameters := [], returnType := none }, accessFlags := 1, code := none }
def k1c1 : Code := { maxStack := 7, maxLocals := 15, code := code, exceptionTable := #[], attributes := #[] }
def k1m1 : Method := { name := "law", desc := "(JJJJI)Z", sig := { parameters := [.long, .long, .long, .long, .int], returnType := some .boolean }, accessFlags := 9, code := some k1c1 }
def k1c2 : Code := { maxStack := 7, maxLocals := 12, code := method_3_code, exceptionTable := #[], attributes := #[] }
def k1m2 : Method := { name := "reference", desc := "(JJ[CI)I", sig := { parameters := [.long, .long, (.array .char), .int], returnType := some .int }, accessFlags := 10, code := some k1c2 }
def k1c3 : Code := { maxStack := 3, maxLocals := 4, code := method_4_code, exceptionTable := #[], attributes := #[] }
def k1m3 : Method := { name := "byteAt", desc := "([CII)J", sig := { parameters := [(.array .char), .int, .int], returnType := some .long }, accessFlags := 10, code := some k1c3 }
def k1c4 : Code := { maxStack := 6, maxLocals := 3, code := method_5_code, exceptionTable := #[], attributes := #[] }
def k1m4 : Method := { name := "word", desc := "([CII)J", sig := { parameters := [(.array .char), .int, .int], returnType := some .long }, accessFlags := 10, code := some k1c4 }
def k1c5 : Code := { maxStack := 6, maxLocals := 3, code := method_6_code, exceptionTable := #[], attributes := #[] }
def k1m5 : Method := { name := "compress", desc := "([JJ)V", sig := { parameters := [(.array .long), .long], returnType := none }, accessFlags := 10, code := some k1c5 }
def k1c6 : Code := { maxStack := 6, maxLocals := 3, code := method_7_code, exceptionTable := #[], attributes := #[] }
def k1m6 : Method := { name := "rotl", desc := "(JI)J", sig := { parameters := [.long, .int], returnType := some .long }, accessFlags := 10, code := some k1c6 }
def k1c7 : Code := { maxStack := 6, maxLocals := 1, code := method_8_code, exceptionTable := #[], attributes := #[] }
def k1m7 : Method := { name := "round", desc := "([J)V", sig := { parameters := [(.array .long)], returnType := none }, accessFlags := 10, code := some k1c7 }
/-- com/example/clearline/clearline/formats/TableHashOfPinLaw -/
def k1 : Class := { plain "com/example/clearline/clearline/formats/TableHashOfPinLaw" (some 0) with
  accessFlags := 49
  interfaces := #[]
  cf := some (fileOf pool1 17 #[] #[{ accessFlags := 1, nameIndex := 5, descriptorIndex := 6, attributes := #[] }, { accessFlags := 9, nameIndex := 53, descriptorIndex := 54, attributes := #[] }, { accessFlags := 10, nameIndex := 20, descriptorIndex := 21, attributes := #[] }, { accessFlags := 10, nameIndex := 46, descriptorIndex := 33, attributes := #[] }, { accessFlags := 10, nameIndex := 32, descriptorIndex := 33, attributes := #[] }, { accessFlags := 10, nameIndex := 36, descriptorIndex := 37, attributes := #[] }, { accessFlags := 10, nameIndex := 49, descriptorIndex := 50, attributes := #[] }, { accessFlags := 10, nameIndex := 42, descriptorIndex := 43, attributes := #[] }] 49 2 #[] #[])
  fields := #[]
  methods := #[k1m0, k1m1, k1m2, k1m3, k1m4, k1m5, k1m6, k1m7]
  instanceTypes := #[]
  staticTypes := #[]
  resolved := Array.replicate 62 none
  statics := none }

def pool2 : Array CpInfo := pool [(1, .methodref 2 3), (0, .class_ 4), (0, .nameAndType 5 6), (0, u "java/lang/Object"), (0, u "<init>"), (0, u "()V"), (0, .fieldref 8 9), (0, .class_ 10), (0, .nameAndType 11 12), (0, u "com/example/clearline/clearline/formats/TableHash"), (0, u "key0"), (0, u "J"), (0, .fieldref 8 14), (0, .nameAndType 15 12), (0, u "key1"), (8, .nameAndType 5 25), (0, u "(JJ)V"), (7, .class_ 34), (0, u "com/example/clearline/clearline/formats/TableHash$Sip"), (0, .methodref 33 24), (0, .methodref 33 37), (0, .nameAndType 38 39), (0, u "take"), (0, u "(J)V"), (0, .methodref 33 41), (0, .nameAndType 42 43), (0, u "end"), (0, u "(J)I"), (4, u "LONGEST_PROBE"), (0, u "I"), (8, u "of"), (0, u "([CII)I")] 6

def k2c0 : Code := { maxStack := 3, maxLocals := 5, code := prog_78_method_1_code, exceptionTable := #[], attributes := #[] }
def k2m0 : Method := { name := "<init>", desc := "(JJ)V", sig := { parameters := [.long, .long], returnType := none }, accessFlags := 0, code := some k2c0 }
def k2c1 : Code := { maxStack := 7, maxLocals := 9, code := prog_78_method_4_code, exceptionTable := #[], attributes := #[] }
def k2m1 : Method := { name := "of", desc := "([CII)I", sig := { parameters := [(.array .char), .int, .int], returnType := some .int }, accessFlags := 0, code := some k2c1 }
/-- com/example/clearline/clearline/formats/TableHash -/
def k2 : Class := { plain "com/example/clearline/clearline/formats/TableHash" (some 0) with
  accessFlags := 48
  interfaces := #[]
  cf := some (fileOf pool2 8 #[.nestMembers #[33]] #[{ accessFlags := 0, nameIndex := 5, descriptorIndex := 25, attributes := #[] }, { accessFlags := 0, nameIndex := 58, descriptorIndex := 59, attributes := #[] }] 48 2 #[] #[{ accessFlags := 24, nameIndex := 48, descriptorIndex := 49, attributes := #[] }, { accessFlags := 18, nameIndex := 11, descriptorIndex := 12, attributes := #[] }, { accessFlags := 18, nameIndex := 15, descriptorIndex := 12, attributes := #[] }])
  fields := #[{ name := "LONGEST_PROBE", type := .int, accessFlags := 24, slot := 0, constantValue := 0 }, { name := "key0", type := .long, accessFlags := 18, slot := 0, constantValue := 0 }, { name := "key1", type := .long, accessFlags := 18, slot := 1, constantValue := 0 }]
  methods := #[k2m0, k2m1]
  instanceTypes := #[.long, .long]
  staticTypes := #[.int]
  resolved := Array.replicate 66 none
  statics := none }

def pool3 : Array CpInfo := pool [(1, .methodref 2 3), (0, .class_ 4), (0, .nameAndType 5 6), (0, u "java/lang/Object"), (0, u "<init>"), (0, u "()V"), (0, .long 8317987319222330741), (1, .fieldref 10 11), (0, .class_ 12), (0, .nameAndType 13 14), (0, u "com/example/clearline/clearline/formats/TableHash$Sip"), (0, u "v0"), (0, u "J"), (0, .long 7237128888997146477), (1, .fieldref 10 18), (0, .nameAndType 19 14), (0, u "v1"), (0, .long 7816392313619706465), (1, .fieldref 10 23), (0, .nameAndType 24 14), (0, u "v2"), (0, .long 8387220255154660723), (1, .fieldref 10 28), (0, .nameAndType 29 14), (0, u "v3"), (0, .methodref 10 31), (0, .nameAndType 32 6), (0, u "round"), (0, .methodref 10 34), (0, .nameAndType 35 36), (0, u "take"), (0, u "(J)V"), (0, .long 255), (1, .methodref 40 41), (0, .class_ 42), (0, .nameAndType 43 44), (0, u "java/lang/Long"), (0, u "rotateLeft"), (0, u "(JI)J"), (0, u "(JJ)V"), (2, u "end"), (0, u "(J)I"), (3, .class_ 54), (0, u "com/example/clearline/clearline/formats/TableHash")] 2

def k3c0 : Code := { maxStack := 5, maxLocals := 5, code := prog_79_method_1_code, exceptionTable := #[], attributes := #[] }
def k3m0 : Method := { name := "<init>", desc := "(JJ)V", sig := { parameters := [.long, .long], returnType := none }, accessFlags := 0, code := some k3c0 }
def k3c1 : Code := { maxStack := 5, maxLocals := 3, code := prog_79_method_2_code, exceptionTable := #[], attributes := #[] }
def k3m1 : Method := { name := "take", desc := "(J)V", sig := { parameters := [.long], returnType := none }, accessFlags := 0, code := some k3c1 }
def k3c2 : Code := { maxStack := 5, maxLocals := 5, code := prog_79_method_3_code, exceptionTable := #[], attributes := #[] }
def k3m2 : Method := { name := "end", desc := "(J)I", sig := { parameters := [.long], returnType := some .int }, accessFlags := 0, code := some k3c2 }
def k3c3 : Code := { maxStack := 5, maxLocals := 1, code := prog_79_method_4_code, exceptionTable := #[], attributes := #[] }
def k3m3 : Method := { name := "round", desc := "()V", sig := { parameters := [], returnType := none }, accessFlags := 2, code := some k3c3 }
/-- com/example/clearline/clearline/formats/TableHash$Sip -/
def k3 : Class := { plain "com/example/clearline/clearline/formats/TableHash$Sip" (some 0) with
  accessFlags := 48
  interfaces := #[]
  cf := some (fileOf pool3 10 #[.nestHost 53] #[{ accessFlags := 0, nameIndex := 5, descriptorIndex := 45, attributes := #[] }, { accessFlags := 0, nameIndex := 35, descriptorIndex := 36, attributes := #[] }, { accessFlags := 0, nameIndex := 48, descriptorIndex := 49, attributes := #[] }, { accessFlags := 2, nameIndex := 32, descriptorIndex := 6, attributes := #[] }] 48 2 #[] #[{ accessFlags := 2, nameIndex := 13, descriptorIndex := 14, attributes := #[] }, { accessFlags := 2, nameIndex := 19, descriptorIndex := 14, attributes := #[] }, { accessFlags := 2, nameIndex := 24, descriptorIndex := 14, attributes := #[] }, { accessFlags := 2, nameIndex := 29, descriptorIndex := 14, attributes := #[] }])
  fields := #[{ name := "v0", type := .long, accessFlags := 2, slot := 0, constantValue := 0 }, { name := "v1", type := .long, accessFlags := 2, slot := 1, constantValue := 0 }, { name := "v2", type := .long, accessFlags := 2, slot := 2, constantValue := 0 }, { name := "v3", type := .long, accessFlags := 2, slot := 3, constantValue := 0 }]
  methods := #[k3m0, k3m1, k3m2, k3m3]
  instanceTypes := #[.long, .long, .long, .long]
  staticTypes := #[]
  resolved := Array.replicate 57 none
  statics := none }

def pool4 : Array CpInfo := pool [(1, .class_ 2), (0, u "java/io/Serializable"), (0, .class_ 4), (0, u "java/lang/Object")] 2

/-- java/io/Serializable -/
def k4 : Class := { plain "java/io/Serializable" (some 0) with
  accessFlags := 1537
  interfaces := #[]
  cf := some (fileOf pool4 1 #[] #[] 1537 3 #[] #[])
  fields := #[]
  methods := #[]
  instanceTypes := #[]
  staticTypes := #[]
  resolved := Array.replicate 7 none
  statics := none }

def pool5 : Array CpInfo := pool [(2, .class_ 4), (1, u "java/lang/Object"), (0, u "<init>"), (0, u "()V"), (1, .class_ 10), (1, u "java/lang/Number"), (2, .class_ 14), (0, u "java/io/Serializable"), (0, u "serialVersionUID"), (0, u "J")] 20

def k5m0 : Method := { name := "<init>", desc := "()V", sig := { parameters := [], returnType := none }, accessFlags := 1, code := none }
/-- java/lang/Number -/
def k5 : Class := { plain "java/lang/Number" (some 0) with
  accessFlags := 1057
  interfaces := #[4]
  cf := some (fileOf pool5 8 #[] #[{ accessFlags := 1, nameIndex := 5, descriptorIndex := 6, attributes := #[] }] 1057 2 #[13] #[{ accessFlags := 26, nameIndex := 15, descriptorIndex := 16, attributes := #[] }])
  fields := #[{ name := "serialVersionUID", type := .long, accessFlags := 26, slot := 0, constantValue := 0 }]
  methods := #[k5m0]
  instanceTypes := #[]
  staticTypes := #[.long]
  resolved := Array.replicate 37 none
  statics := none }

def pool6 : Array CpInfo := pool [(1, .class_ 2), (0, u "java/lang/Comparable"), (0, .class_ 4), (0, u "java/lang/Object")] 7

/-- java/lang/Comparable -/
def k6 : Class := { plain "java/lang/Comparable" (some 0) with
  accessFlags := 1537
  interfaces := #[]
  cf := some (fileOf pool6 1 #[] #[] 1537 3 #[] #[])
  fields := #[]
  methods := #[]
  instanceTypes := #[]
  staticTypes := #[]
  resolved := Array.replicate 12 none
  statics := none }

def pool7 : Array CpInfo := pool [(1, .class_ 2), (0, u "java/lang/constant/Constable"), (0, .class_ 4), (0, u "java/lang/Object")] 6

/-- java/lang/constant/Constable -/
def k7 : Class := { plain "java/lang/constant/Constable" (some 0) with
  accessFlags := 1537
  interfaces := #[]
  cf := some (fileOf pool7 1 #[] #[] 1537 3 #[] #[])
  fields := #[]
  methods := #[]
  instanceTypes := #[]
  staticTypes := #[]
  resolved := Array.replicate 11 none
  statics := none }

def pool8 : Array CpInfo := pool [(1, .class_ 2), (0, u "java/lang/constant/ConstantDesc"), (0, .class_ 4), (0, u "java/lang/Object")] 32

/-- java/lang/constant/ConstantDesc -/
def k8 : Class := { plain "java/lang/constant/ConstantDesc" (some 0) with
  accessFlags := 1537
  interfaces := #[]
  cf := some (fileOf pool8 1 #[] #[] 1537 3 #[] #[])
  fields := #[]
  methods := #[]
  instanceTypes := #[]
  staticTypes := #[]
  resolved := Array.replicate 37 none
  statics := none }

def pool9 : Array CpInfo := pool [(1, .class_ 2), (0, u "java/lang/Long"), (232, .class_ 237), (1, u "java/lang/Long$LongCache"), (33, .class_ 272), (0, u "java/lang/Number"), (2, u "value"), (0, u "J"), (84, u "TYPE"), (0, u "Ljava/lang/Class;"), (0, .class_ 364), (0, u "java/lang/Comparable"), (0, .class_ 366), (0, u "java/lang/constant/Constable"), (0, .class_ 368), (0, u "java/lang/constant/ConstantDesc"), (0, u "MIN_VALUE"), (1, u "MAX_VALUE"), (4, u "SIZE"), (0, u "I"), (1, u "BYTES"), (1, u "serialVersionUID"), (95, u "rotateLeft"), (0, u "(JI)J")] 45

def k9c0 : Code := { maxStack := 5, maxLocals := 3, code := jdk_35_method_51_code, exceptionTable := #[], attributes := #[] }
def k9m0 : Method := { name := "rotateLeft", desc := "(JI)J", sig := { parameters := [.long, .int], returnType := some .long }, accessFlags := 9, code := some k9c0 }
/-- java/lang/Long -/
def k9 : Class := { plain "java/lang/Long" (some 5) with
  accessFlags := 49
  interfaces := #[6, 7, 8]
  cf := some (fileOf pool9 1 #[.nestMembers #[235]] #[{ accessFlags := 9, nameIndex := 477, descriptorIndex := 478, attributes := #[] }] 49 271 #[363, 365, 367] #[{ accessFlags := 25, nameIndex := 369, descriptorIndex := 276, attributes := #[] }, { accessFlags := 25, nameIndex := 371, descriptorIndex := 276, attributes := #[] }, { accessFlags := 25, nameIndex := 361, descriptorIndex := 362, attributes := #[] }, { accessFlags := 18, nameIndex := 275, descriptorIndex := 276, attributes := #[] }, { accessFlags := 25, nameIndex := 376, descriptorIndex := 377, attributes := #[] }, { accessFlags := 25, nameIndex := 379, descriptorIndex := 377, attributes := #[] }, { accessFlags := 26, nameIndex := 381, descriptorIndex := 276, attributes := #[] }])
  fields := #[{ name := "MIN_VALUE", type := .long, accessFlags := 25, slot := 0, constantValue := 0 }, { name := "MAX_VALUE", type := .long, accessFlags := 25, slot := 1, constantValue := 0 }, { name := "TYPE", type := (.object "java/lang/Class"), accessFlags := 25, slot := 2, constantValue := 0 }, { name := "value", type := .long, accessFlags := 18, slot := 0, constantValue := 0 }, { name := "SIZE", type := .int, accessFlags := 25, slot := 3, constantValue := 0 }, { name := "BYTES", type := .int, accessFlags := 25, slot := 4, constantValue := 0 }, { name := "serialVersionUID", type := .long, accessFlags := 26, slot := 5, constantValue := 0 }]
  methods := #[k9m0]
  instanceTypes := #[.long]
  staticTypes := #[.long, .long, (.object "java/lang/Class"), .int, .int, .long]
  resolved := Array.replicate 524 none
  statics := none }

def pool10 : Array CpInfo := pool [(1, u "java/lang/Cloneable"), (0, .class_ 1), (0, u "java/lang/Object"), (0, .class_ 3)] 3

/-- java/lang/Cloneable -/
def k10 : Class := { plain "java/lang/Cloneable" (some 0) with
  accessFlags := 1537
  interfaces := #[]
  cf := some (fileOf pool10 2 #[] #[] 1537 4 #[] #[])
  fields := #[]
  methods := #[]
  instanceTypes := #[]
  staticTypes := #[]
  resolved := Array.replicate 8 none
  statics := none }

/-- the primitive byte -/
def k11 : Class := { plain "byte" none with kind := .primitive 'B', accessFlags := 0x411 }
/-- [B -/
def k12 : Class := { plain "[B" (some 0) with kind := .array 11 .byte, interfaces := #[10, 4], accessFlags := 1041 }

/-- the primitive char -/
def k13 : Class := { plain "char" none with kind := .primitive 'C', accessFlags := 0x411 }
/-- [C -/
def k14 : Class := { plain "[C" (some 0) with kind := .array 13 .char, interfaces := #[10, 4], accessFlags := 1041 }

/-- the primitive int -/
def k15 : Class := { plain "int" none with kind := .primitive 'I', accessFlags := 0x411 }
/-- [I -/
def k16 : Class := { plain "[I" (some 0) with kind := .array 15 .int, interfaces := #[10, 4], accessFlags := 1041 }

/-- the primitive long -/
def k17 : Class := { plain "long" none with kind := .primitive 'J', accessFlags := 0x411 }
/-- [J -/
def k18 : Class := { plain "[J" (some 0) with kind := .array 17 .long, interfaces := #[10, 4], accessFlags := 1041 }

def heap : Heap := #[]
def classes : Array Class := #[k0, k1, k2, k3, k4, k5, k6, k7, k8, k9, k10, k11, k12, k13, k14, k15, k16, k17, k18]
def interned : List (Array UInt16 × Addr) := []
def slotsUsed : Nat := 0
def theMethod : MethodId := ⟨1, 1⟩
def args0 : Array Value := #[.long 1, .long 2, .long 3, .long 4, .int 5]
def aboutOver (below : List Frame) : State where
  vm := { classes := classes, interned := interned.toArray }
  heap := heap
  slotsUsed := slotsUsed
  threads := #[{ frames := .invoking theMethod args0 :: below }]
def below0 : List Frame := [.native { method := ⟨0, 0⟩, args := #[] }]
def about1 : State := aboutOver below0
def p0 : Program := .bare "" "" ""
def e0 : Env := launch0.env 0 0 0
theorem w_frames : about1.frames = Frame.invoking theMethod args0 :: below0 := rfl
set_option maxRecDepth 65536 in
theorem w_args : argsFit about1.vm theMethod args0 = true := by decide +kernel
set_option maxRecDepth 65536 in
theorem w_heap : heapFits about1 = true := by decide +kernel
set_option maxRecDepth 65536 in
theorem w_runnable : about1.curStatus? = some .runnable := by decide +kernel
set_option maxRecDepth 65536 in
theorem w_alone : about1.alone = true := by decide +kernel
set_option maxRecDepth 65536 in
theorem w_named : about1.methodNamed? x = some theMethod := by decide +kernel
set_option maxRecDepth 65536 in
theorem w_hears : about1.hears theMethod below0 = true := by decide +kernel
set_option maxRecDepth 65536 in
theorem w_ripe : about1.ripe theMethod args0 below0 = true := by decide +kernel
theorem w_running : about1.status = .running := rfl
set_option maxRecDepth 65536 in
theorem w_room : about1.hasRoom e0.platform room_1 = true :=
  launch0.hasRoom_least _ room_1 (by decide +kernel) (by decide +kernel) (by decide +kernel) (by decide +kernel) (by decide +kernel) (by decide +kernel)
theorem allAtoms_all (ts : List Jvm.Cond) (a : Array Jvm.Value) (st : Jvm.State) : (allAtoms ts).before a st = ts.all (fun c => c.before a st) := by
  induction ts with
  | nil => rfl
  | cons c t ih =>
    show (Jvm.Cond.and c (allAtoms t)).before a st = _
    rw [Jvm.Cond.before_and, ih, List.all_cons]
def words1 : List Jvm.Cond := Jvm.Cond.code x code maxLocals ret :: tables_1
/-- a 'code' word, met by the world's own term for the bytes: nothing is compared byte by byte -/
theorem code_word {y : MethodName} {bytes : ByteArray} {mx : Nat} {rt : Option FieldType} {a : Array Value} {s : State} {m : MethodId} {meth : Method} {c : Code} (h1 : s.methodNamed? y = some m) (h2 : s.vm.method? m = some meth) (h3 : meth.code = some c) (h4 : c.code = bytes)
    (h5 : (c.maxLocals == mx && c.exceptionTable.isEmpty && decide (c.maxStack ≤ mostOperands) && decide (meth.sig.returnType = rt) && !meth.locks && decide (parseMethodDescriptor y.desc = some meth.sig)) = true) : (Jvm.Cond.code y bytes mx rt).before a s = true := by
  simp only [Bool.and_eq_true, beq_iff_eq, Bool.not_eq_true', decide_eq_true_eq] at h5
  obtain ⟨⟨⟨⟨⟨g1, g2⟩, g3⟩, g4⟩, g5⟩, g6⟩ := h5
  simp [Cond.before, Cond.holds, Cond.value, h1, h2, h3, h4, g1, g2, g3, g4, g5, g6]
def isCode : Jvm.Cond → Bool
  | .code _ _ _ _ => true
  | _ => false
theorem all_split {L : List Jvm.Cond} {P : Jvm.Cond → Bool} (h1 : L.all (fun c => isCode c || P c) = true) (h2 : ∀ c ∈ L.filter isCode, P c = true) : L.all P = true := by
  refine List.all_eq_true.mpr fun c hc => ?_
  have h := List.all_eq_true.mp h1 c hc
  rcases Bool.eq_false_or_eq_true (isCode c) with hi | hi
  · exact h2 c (List.mem_filter.mpr ⟨hc, hi⟩)
  · simpa [hi] using h
set_option maxRecDepth 65536 in
theorem w_c0 : (Jvm.Cond.code x code maxLocals ret).before args0 about1 = true := code_word (m := ⟨1, 1⟩) (meth := k1m1) (c := k1c1) (by decide +kernel) rfl rfl rfl (by decide +kernel)
set_option maxRecDepth 65536 in
theorem w_c1 : (Jvm.Cond.code ({ cls := "com/example/clearline/clearline/formats/TableHash", name := "<init>", desc := "(JJ)V" } : Jvm.MethodName) prog_78_method_1_code (5 : Nat) (Option.none : Option Jvm.ClassFile.FieldType)).before args0 about1 = true := code_word (m := ⟨2, 0⟩) (meth := k2m0) (c := k2c0) (by decide +kernel) rfl rfl rfl (by decide +kernel)
set_option maxRecDepth 65536 in
theorem w_c2 : (Jvm.Cond.code ({ cls := "java/lang/Object", name := "<init>", desc := "()V" } : Jvm.MethodName) object_method_1_code (1 : Nat) (Option.none : Option Jvm.ClassFile.FieldType)).before args0 about1 = true := code_word (m := ⟨0, 0⟩) (meth := k0m0) (c := k0c0) (by decide +kernel) rfl rfl rfl (by decide +kernel)
set_option maxRecDepth 65536 in
theorem w_c3 : (Jvm.Cond.code ({ cls := "com/example/clearline/clearline/formats/TableHash", name := "of", desc := "([CII)I" } : Jvm.MethodName) prog_78_method_4_code (9 : Nat) (Option.some Jvm.ClassFile.FieldType.int)).before args0 about1 = true := code_word (m := ⟨2, 1⟩) (meth := k2m1) (c := k2c1) (by decide +kernel) rfl rfl rfl (by decide +kernel)
set_option maxRecDepth 65536 in
theorem w_c4 : (Jvm.Cond.code ({ cls := "com/example/clearline/clearline/formats/TableHash$Sip", name := "<init>", desc := "(JJ)V" } : Jvm.MethodName) prog_79_method_1_code (5 : Nat) (Option.none : Option Jvm.ClassFile.FieldType)).before args0 about1 = true := code_word (m := ⟨3, 0⟩) (meth := k3m0) (c := k3c0) (by decide +kernel) rfl rfl rfl (by decide +kernel)
set_option maxRecDepth 65536 in
theorem w_c5 : (Jvm.Cond.code ({ cls := "com/example/clearline/clearline/formats/TableHash$Sip", name := "end", desc := "(J)I" } : Jvm.MethodName) prog_79_method_3_code (5 : Nat) (Option.some Jvm.ClassFile.FieldType.int)).before args0 about1 = true := code_word (m := ⟨3, 2⟩) (meth := k3m2) (c := k3c2) (by decide +kernel) rfl rfl rfl (by decide +kernel)
set_option maxRecDepth 65536 in
theorem w_c6 : (Jvm.Cond.code ({ cls := "com/example/clearline/clearline/formats/TableHash$Sip", name := "take", desc := "(J)V" } : Jvm.MethodName) prog_79_method_2_code (3 : Nat) (Option.none : Option Jvm.ClassFile.FieldType)).before args0 about1 = true := code_word (m := ⟨3, 1⟩) (meth := k3m1) (c := k3c1) (by decide +kernel) rfl rfl rfl (by decide +kernel)
set_option maxRecDepth 65536 in
theorem w_c7 : (Jvm.Cond.code ({ cls := "com/example/clearline/clearline/formats/TableHash$Sip", name := "round", desc := "()V" } : Jvm.MethodName) prog_79_method_4_code (1 : Nat) (Option.none : Option Jvm.ClassFile.FieldType)).before args0 about1 = true := code_word (m := ⟨3, 3⟩) (meth := k3m3) (c := k3c3) (by decide +kernel) rfl rfl rfl (by decide +kernel)
set_option maxRecDepth 65536 in
theorem w_c8 : (Jvm.Cond.code ({ cls := "java/lang/Long", name := "rotateLeft", desc := "(JI)J" } : Jvm.MethodName) jdk_35_method_51_code (3 : Nat) (Option.some Jvm.ClassFile.FieldType.long)).before args0 about1 = true := code_word (m := ⟨9, 0⟩) (meth := k9m0) (c := k9c0) (by decide +kernel) rfl rfl rfl (by decide +kernel)
set_option maxRecDepth 65536 in
theorem w_c9 : (Jvm.Cond.code ({ cls := "com/example/clearline/clearline/formats/TableHashOfPinLaw", name := "reference", desc := "(JJ[CI)I" } : Jvm.MethodName) method_3_code (12 : Nat) (Option.some Jvm.ClassFile.FieldType.int)).before args0 about1 = true := code_word (m := ⟨1, 2⟩) (meth := k1m2) (c := k1c2) (by decide +kernel) rfl rfl rfl (by decide +kernel)
set_option maxRecDepth 65536 in
theorem w_c10 : (Jvm.Cond.code ({ cls := "com/example/clearline/clearline/formats/TableHashOfPinLaw", name := "word", desc := "([CII)J" } : Jvm.MethodName) method_5_code (3 : Nat) (Option.some Jvm.ClassFile.FieldType.long)).before args0 about1 = true := code_word (m := ⟨1, 4⟩) (meth := k1m4) (c := k1c4) (by decide +kernel) rfl rfl rfl (by decide +kernel)
set_option maxRecDepth 65536 in
theorem w_c11 : (Jvm.Cond.code ({ cls := "com/example/clearline/clearline/formats/TableHashOfPinLaw", name := "byteAt", desc := "([CII)J" } : Jvm.MethodName) method_4_code (4 : Nat) (Option.some Jvm.ClassFile.FieldType.long)).before args0 about1 = true := code_word (m := ⟨1, 3⟩) (meth := k1m3) (c := k1c3) (by decide +kernel) rfl rfl rfl (by decide +kernel)
set_option maxRecDepth 65536 in
theorem w_c12 : (Jvm.Cond.code ({ cls := "com/example/clearline/clearline/formats/TableHashOfPinLaw", name := "compress", desc := "([JJ)V" } : Jvm.MethodName) method_6_code (3 : Nat) (Option.none : Option Jvm.ClassFile.FieldType)).before args0 about1 = true := code_word (m := ⟨1, 5⟩) (meth := k1m5) (c := k1c5) (by decide +kernel) rfl rfl rfl (by decide +kernel)
set_option maxRecDepth 65536 in
theorem w_c13 : (Jvm.Cond.code ({ cls := "com/example/clearline/clearline/formats/TableHashOfPinLaw", name := "round", desc := "([J)V" } : Jvm.MethodName) method_8_code (1 : Nat) (Option.none : Option Jvm.ClassFile.FieldType)).before args0 about1 = true := code_word (m := ⟨1, 7⟩) (meth := k1m7) (c := k1c7) (by decide +kernel) rfl rfl rfl (by decide +kernel)
set_option maxRecDepth 65536 in
theorem w_c14 : (Jvm.Cond.code ({ cls := "com/example/clearline/clearline/formats/TableHashOfPinLaw", name := "rotl", desc := "(JI)J" } : Jvm.MethodName) method_7_code (3 : Nat) (Option.some Jvm.ClassFile.FieldType.long)).before args0 about1 = true := code_word (m := ⟨1, 6⟩) (meth := k1m6) (c := k1c6) (by decide +kernel) rfl rfl rfl (by decide +kernel)
def codes1 : List Jvm.Cond := [Jvm.Cond.code x code maxLocals ret, Jvm.Cond.code ({ cls := "com/example/clearline/clearline/formats/TableHash", name := "<init>", desc := "(JJ)V" } : Jvm.MethodName) prog_78_method_1_code (5 : Nat) (Option.none : Option Jvm.ClassFile.FieldType), Jvm.Cond.code ({ cls := "java/lang/Object", name := "<init>", desc := "()V" } : Jvm.MethodName) object_method_1_code (1 : Nat) (Option.none : Option Jvm.ClassFile.FieldType), Jvm.Cond.code ({ cls := "com/example/clearline/clearline/formats/TableHash", name := "of", desc := "([CII)I" } : Jvm.MethodName) prog_78_method_4_code (9 : Nat) (Option.some Jvm.ClassFile.FieldType.int), Jvm.Cond.code ({ cls := "com/example/clearline/clearline/formats/TableHash$Sip", name := "<init>", desc := "(JJ)V" } : Jvm.MethodName) prog_79_method_1_code (5 : Nat) (Option.none : Option Jvm.ClassFile.FieldType), Jvm.Cond.code ({ cls := "com/example/clearline/clearline/formats/TableHash$Sip", name := "end", desc := "(J)I" } : Jvm.MethodName) prog_79_method_3_code (5 : Nat) (Option.some Jvm.ClassFile.FieldType.int), Jvm.Cond.code ({ cls := "com/example/clearline/clearline/formats/TableHash$Sip", name := "take", desc := "(J)V" } : Jvm.MethodName) prog_79_method_2_code (3 : Nat) (Option.none : Option Jvm.ClassFile.FieldType), Jvm.Cond.code ({ cls := "com/example/clearline/clearline/formats/TableHash$Sip", name := "round", desc := "()V" } : Jvm.MethodName) prog_79_method_4_code (1 : Nat) (Option.none : Option Jvm.ClassFile.FieldType), Jvm.Cond.code ({ cls := "java/lang/Long", name := "rotateLeft", desc := "(JI)J" } : Jvm.MethodName) jdk_35_method_51_code (3 : Nat) (Option.some Jvm.ClassFile.FieldType.long), Jvm.Cond.code ({ cls := "com/example/clearline/clearline/formats/TableHashOfPinLaw", name := "reference", desc := "(JJ[CI)I" } : Jvm.MethodName) method_3_code (12 : Nat) (Option.some Jvm.ClassFile.FieldType.int), Jvm.Cond.code ({ cls := "com/example/clearline/clearline/formats/TableHashOfPinLaw", name := "word", desc := "([CII)J" } : Jvm.MethodName) method_5_code (3 : Nat) (Option.some Jvm.ClassFile.FieldType.long), Jvm.Cond.code ({ cls := "com/example/clearline/clearline/formats/TableHashOfPinLaw", name := "byteAt", desc := "([CII)J" } : Jvm.MethodName) method_4_code (4 : Nat) (Option.some Jvm.ClassFile.FieldType.long), Jvm.Cond.code ({ cls := "com/example/clearline/clearline/formats/TableHashOfPinLaw", name := "compress", desc := "([JJ)V" } : Jvm.MethodName) method_6_code (3 : Nat) (Option.none : Option Jvm.ClassFile.FieldType), Jvm.Cond.code ({ cls := "com/example/clearline/clearline/formats/TableHashOfPinLaw", name := "round", desc := "([J)V" } : Jvm.MethodName) method_8_code (1 : Nat) (Option.none : Option Jvm.ClassFile.FieldType), Jvm.Cond.code ({ cls := "com/example/clearline/clearline/formats/TableHashOfPinLaw", name := "rotl", desc := "(JI)J" } : Jvm.MethodName) method_7_code (3 : Nat) (Option.some Jvm.ClassFile.FieldType.long)]
set_option maxRecDepth 65536 in
theorem codes_eq : words1.filter isCode = codes1 := rfl
theorem w_codes : ∀ c ∈ words1.filter isCode, c.before args0 about1 = true := by
  rw [codes_eq]
  intro c hc
  simp only [codes1, List.mem_cons, List.not_mem_nil, or_false] at hc
  rcases hc with rfl | rfl | rfl | rfl | rfl | rfl | rfl | rfl | rfl | rfl | rfl | rfl | rfl | rfl | rfl
  · exact w_c0
  · exact w_c1
  · exact w_c2
  · exact w_c3
  · exact w_c4
  · exact w_c5
  · exact w_c6
  · exact w_c7
  · exact w_c8
  · exact w_c9
  · exact w_c10
  · exact w_c11
  · exact w_c12
  · exact w_c13
  · exact w_c14
set_option maxRecDepth 65536 in
theorem w_t1 : (words1.take 24).all (fun c => isCode c || c.before args0 about1) = true := by decide +kernel
set_option maxRecDepth 65536 in
theorem w_t2 : ((words1.drop 24).take 24).all (fun c => isCode c || c.before args0 about1) = true := by decide +kernel
set_option maxRecDepth 65536 in
theorem w_t3 : (((words1.drop 24).drop 24).take 24).all (fun c => isCode c || c.before args0 about1) = true := by decide +kernel
set_option maxRecDepth 65536 in
theorem w_t4 : (((words1.drop 24).drop 24).drop 24).all (fun c => isCode c || c.before args0 about1) = true := by decide +kernel
theorem w_tables : (allAtoms (Jvm.Cond.code x code maxLocals ret :: tables_1)).before args0 about1 = true := by
  rw [allAtoms_all]
  show words1.all (fun c => c.before args0 about1) = true
  refine all_split ?_ w_codes
  rw [← List.take_append_drop 24 words1, List.all_append, w_t1, ← List.take_append_drop 24 (words1.drop 24), List.all_append, w_t2, ← List.take_append_drop 24 ((words1.drop 24).drop 24), List.all_append, w_t3, w_t4]
  rfl
set_option maxRecDepth 65536 in
theorem w_case : (Jvm.Cond.and given_1 narrow_1).before args0 about1 = true := by decide +kernel
theorem w_applies : (headSpec (Jvm.Cond.code x code maxLocals ret :: tables_1) room_1).applies x e0.platform about1 = true :=
  (Spec.applies_iff w_frames).mpr ⟨w_running, w_runnable, w_alone, w_named, w_hears, w_ripe, w_room, w_tables⟩
theorem atStart : AtStart classFile x code maxLocals ret World_1 tables_1 room_1 Calls_1 rest_1 Pre_1 launch0 p0 e0 about1 theMethod args0 below0 :=
  ⟨lists_1, trivial, launch0.admits_env _ _ _, launch0.least_env, fairChoices_fair.cas, fairChoices_fair.clock, w_frames, w_args, w_heap, w_applies, trivial, trivial, w_case⟩
end start1
theorem witness_1 : WitnessClaimed_1 := ⟨start1.p0, start1.e0, start1.about1, start1.theMethod, start1.args0, start1.below0, start1.atStart⟩
end Jvm.Pilot.@@N@@
