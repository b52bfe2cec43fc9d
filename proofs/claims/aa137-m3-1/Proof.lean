import JvmDerived
import JvmDerived.Pilot.@@N@@Statement
import JvmDerived.Pilot.@@N@@Code
set_option linter.unusedVariables false
set_option linter.unusedSimpArgs false
namespace Jvm.RoadKit
open Sem ClassFile Op Lib Jvm.Stand Jvm.Free Jvm.LawKit
section New
variable {p : Program} {l : Launch} {e : Env} {R : Room} {s : State} {m : MethodId} {args : Array Value} {below : List Frame} {meth : Method} {c : Code} {T : State} {locs : List Loc} {cells slots : Nat}
theorem retI (X : Stand p l e R s m args below meth c T locs cells slots) (hx : p.tables.exec = Jvm.exec) {pc : Nat} {Ls : Array Slot} {z : Int32} {rest : List Value} (hret : meth.sig.returnType = some .int) (hd : decode c.code pc = .ok (.ireturn, 1)) {fs : List Frame}
    (hl : ∀ (f : JFrame) (acts : List Action), f.method = m → f.locked = none → f.entered = [] → (doReturn e (T.setTop f) acts (some (.int z))).1 = T.setFrames fs) : Steps p.tables e below (T.setTop (mkF m pc Ls (.int z :: rest))) (T.setFrames fs) := by
  have hm' : T.vm.method? m = some meth := X.method'
  have hn : narrow .int (.int z) = .int z := rfl
  show Steps p.tables e below (T.setTop { method := m, pc := pc, locals := Ls, stack := _ :: rest, locked := none }) _
  jvm_step X.here [X.here.top, hx, hd, hm', hret, hn]
  first | (intro acts; rw [hl _ acts rfl rfl rfl]) | rw [hl _ _ rfl rfl rfl]
  exact Steps.refl _
end New
end Jvm.RoadKit
namespace Jvm.Pilot.@@N@@
open Jvm Jvm.ClassFile Sem Op Lib Jvm.Free Jvm.Stand Jvm.LawKit Jvm.RoadKit Bundle Jvm.Pilot.@@N@@.Jvm.D
section Own
variable {p : Program} {l : Launch} {e : Env} {R : Room} {s : State} {m : MethodId} {args : Array Value} {below : List Frame} {meth : Method} {c : Code} {T : State} {locs : List Loc} {cells slots : Nat} {Z : State} {a0 : Array Value} {h : Heap} {Q : Option Value → Heap → List Loc → Prop} {C N : Nat}
/-- from the state U the run comes to this invocation's end, which returns, and Q holds of the value, the heap and the written places -/
def zq_Go (p : Program) (e : Env) (below : List Frame) (s : State) (Q : Option Value → Heap → List Loc → Prop) (C N : Nat) (U : State) : Prop :=
  ∃ t o, Steps p.tables e below U t ∧ t.status = .running ∧ Ended t below o ∧ ∃ v L, o = .returned v ∧ Q v t.heap L ∧ FrameEnd s o t L C N
theorem zq_go {A B : State} (k : ∀ t, Steps p.tables e below A t → Steps p.tables e below B t) (h : zq_Go p e below s Q C N A) : zq_Go p e below s Q C N B := by
  obtain ⟨t, o, h1, r⟩ := h
  exact ⟨t, o, k t h1, r⟩
theorem zq_out (X : Stand p l e R s m args below meth c T locs cells slots) (hl : meth.locks = false) {v : Option Value} (hv : meth.sig.returnType = none → v = none) {A : State}
    (k : ∀ fs, (∀ (f : JFrame) (acts : List Action), f.method = m → f.locked = none → f.entered = [] → (doReturn e (T.setTop f) acts v).1 = T.setFrames fs) → Steps p.tables e below A (T.setFrames fs)) (hq : Q v T.heap locs) (hc : cells ≤ C) (hs : slots ≤ N) : zq_Go p e below s Q C N A := by
  obtain ⟨fs, hr, hrun, hended, hW, hsame⟩ := X.leave (v := v) hv hl
  exact ⟨_, _, k fs hr, hrun, hended, v, locs, rfl, hq, ⟨_, rfl⟩, hW, hsame.mono hc hs⟩
theorem zq_retN (X : Stand p l e R s m args below meth c T locs cells slots) (hx : p.tables.exec = Jvm.exec) (hl : meth.locks = false) {pc : Nat} {Ls : Array Slot} {z : Int32} {t : FieldType} {rest : List Value} (hret : meth.sig.returnType = some t) (ht : t = .boolean ∨ t = .byte ∨ t = .char ∨ t = .short)
    (hd : decode c.code pc = .ok (.ireturn, 1)) (hq : Q (some (.int (nar t z))) T.heap locs) (hc : cells ≤ C) (hs : slots ≤ N) : zq_Go p e below s Q C N (T.setTop (mkF m pc Ls (.int z :: rest))) :=
  zq_out X hl (fun h => by rw [hret] at h; cases h) (fun fs hr => retN X hx hret ht hd hr) hq hc hs
theorem zq_retI (X : Stand p l e R s m args below meth c T locs cells slots) (hx : p.tables.exec = Jvm.exec) (hl : meth.locks = false) {pc : Nat} {Ls : Array Slot} {z : Int32} {rest : List Value} (hret : meth.sig.returnType = some .int)
    (hd : decode c.code pc = .ok (.ireturn, 1)) (hq : Q (some (.int z)) T.heap locs) (hc : cells ≤ C) (hs : slots ≤ N) : zq_Go p e below s Q C N (T.setTop (mkF m pc Ls (.int z :: rest))) :=
  zq_out X hl (fun h => by rw [hret] at h; cases h) (fun fs hr => retI X hx hret hd hr) hq hc hs
theorem zq_retJ (X : Stand p l e R s m args below meth c T locs cells slots) (hx : p.tables.exec = Jvm.exec) (hl : meth.locks = false) {pc : Nat} {Ls : Array Slot} {z : Int64} (hret : meth.sig.returnType = some .long)
    (hd : decode c.code pc = .ok (.lreturn, 1)) (hq : Q (some (.long z)) T.heap locs) (hc : cells ≤ C) (hs : slots ≤ N) : zq_Go p e below s Q C N (T.setTop (mkF m pc Ls [.long z])) :=
  zq_out X hl (fun h => by rw [hret] at h; cases h) (fun fs hr => X.lreturnOut hx hret hd hr) hq hc hs
theorem zq_retA (X : Stand p l e R s m args below meth c T locs cells slots) (hx : p.tables.exec = Jvm.exec) (hl : meth.locks = false) {pc : Nat} {Ls : Array Slot} {w : Value} {t : FieldType} (hw : w.isRef = true) (hret : meth.sig.returnType = some t) (ht : t.isReference = true)
    (hd : decode c.code pc = .ok (.areturn, 1)) (hq : Q (some w) T.heap locs) (hc : cells ≤ C) (hs : slots ≤ N) : zq_Go p e below s Q C N (T.setTop (mkF m pc Ls [w])) :=
  zq_out X hl (fun h => by rw [hret] at h; cases h) (fun fs hr => X.areturnOut hx hw hret ht hd hr) hq hc hs
theorem zq_ret0 (X : Stand p l e R s m args below meth c T locs cells slots) (hx : p.tables.exec = Jvm.exec) (hl : meth.locks = false) {pc : Nat} {Ls : Array Slot} (hret : meth.sig.returnType = none)
    (hd : decode c.code pc = .ok (.return_, 1)) (hq : Q none T.heap locs) (hc : cells ≤ C) (hs : slots ≤ N) : zq_Go p e below s Q C N (T.setTop (mkF m pc Ls [])) :=
  zq_out X hl (fun _ => rfl) (fun fs hr => X.returnOut hx hret hd hr) hq hc hs
/-- a method's contract, from the heap h0, for the arguments a -/
abbrev zq_Met (l : Launch) (Z : State) (y : MethodName) (bytes : ByteArray) (maxL : Nat) (ret : Option FieldType) (ws : List Jvm.Cond) (rm : Room) (a : Array Value) (h0 : Heap) (Q : Option Value → Heap → List Loc → Prop) : Prop :=
  MetFree l y (head1 (Jvm.Cond.code y bytes maxL ret :: ws) rm) (fun a' U => a' = a ∧ Z.Warmed39 U.vm ∧ U.heap = h0) (fun _ _ _ _ _ => True) (fun _ U o U' => ∃ v L, o = .returned v ∧ Q v U'.heap L ∧ FrameEnd U o U' L rm.cells rm.slots)
theorem zq_body {y : MethodName} {bytes : ByteArray} {maxL : Nat} {ret : Option FieldType} {ws : List Jvm.Cond} {rm : Room} {a : Array Value} {h0 : Heap} (hpl : plainFor y = true)
    (body : ∀ (p : Program) (e : Env) (s : State) (m : MethodId) (below : List Frame) (meth : Method) (c : Code) (s₁ : State), p.tables.exec = Jvm.exec → Z.Warmed39 s.vm → c.code = bytes → c.maxLocals = maxL → meth.sig.returnType = ret → meth.locks = false → s.vm.findClass y.cls = some m.cls → meth.name = y.name → Stand p l e rm s m a below meth c s₁ [] 0 0 → s₁.heap = h0 → zq_Go p e below s Q rm.cells rm.slots (s₁.setTop (entryFrame m a maxL))) :
    zq_Met l Z y bytes maxL ret ws rm a h0 Q := by
  refine MetFree.of_bodySF hpl hisR ?_
  intro p e s m args below meth c s₁ Bd hml0 hP hK
  obtain ⟨rfl, hZ, hh⟩ := hP
  exact body p e s m below meth c s₁ Bd.exec hZ Bd.bytes hml0 Bd.returns Bd.notSynchronized (findClass_of_methodNamed Bd.named) (name_of_methodNamed Bd.named Bd.method).1 (Stand.of_body Bd) (by rw [← hh, Bd.state]; rfl)
/-- a callee that leaves no trace and returns r -/
def zq_pure (r : Value) (h0 : Heap) : Option Value → Heap → List Loc → Prop := fun v h L => v = some r ∧ L = [] ∧ h = h0
theorem zq_callS (X : Stand p l e R s m args below meth c T locs cells slots) (hx : p.tables.exec = Jvm.exec) (hZ : Z.Warmed39 s.vm) {own : String} {index W : Nat} {y : MethodName} {bytes : ByteArray} {maxL : Nat} {ret : Option FieldType} {rm : Room} (hown : s.vm.findClass own = some m.cls)
    (w1 : (Cond.methodLink own index y).before a0 Z = true) (w2 : (Cond.static y).before a0 Z = true) (w3 : (Cond.initialized y.cls).before a0 Z = true) (w4 : (Cond.code y bytes maxL ret).before a0 Z = true) (hy : y.cls ≠ "java/lang/invoke/MethodHandle" ∧ y.cls ≠ "java/lang/invoke/VarHandle") {argsL rest : List Value}
    (hM : zq_Met l Z y bytes maxL ret [] rm argsL.toArray h Q) (eT : T.heap = h) (hf : rm.frames + 1 ≤ R.frames) (hl : W + (maxL + 11) + rm.locals ≤ R.locals) (hcells : cells + rm.cells ≤ R.cells) (hslots : slots + rm.slots ≤ R.slots)
    {g : JFrame} (hg : g.method = m) (hsize : g.locals.size = c.maxLocals) (hlen : ∀ sig, parseMethodDescriptor y.desc = some sig → argsL.length = sig.parameters.length) (hstack : g.stack = argsL.reverse ++ rest) (hW : 2 * g.monitorRoom + (rest.map fun v => v.category).sum ≤ W) (hdg : decode c.code g.pc = .ok (.invokestatic index, 3)) :
    ∃ (v : Option Value) (T' : State) (L : List Loc), Stand p l e R s m args below meth c T' (locs ++ L) (cells + rm.cells) (slots + rm.slots) ∧ Q v T'.heap L ∧ ∀ target, Steps p.tables e below (T'.setTop { g with pc := g.pc + 3, stack := v.toList ++ rest }) target → Steps p.tables e below (T.setTop g) target := by
  obtain ⟨v, vm₁, ⟨T', L', k', n'⟩, -, X', ⟨L, hQ, e1, e2, e3⟩, st⟩ := Jvm.LawKit.callS X hx (y := y) hown (mvT hZ w1) (mvT hZ w2) (mvT hZ w3) (mvT hZ w4) hy (backOf (W := W) hM hZ w4 w3 hf hl) hg hsize hlen hstack hW hdg (fun _ _ => ⟨rfl, eT, hcells, hslots⟩)
  dsimp only [Pt.U, Pt.locs, Pt.cells, Pt.slots] at X' hQ e1 e2 e3 st
  subst e1 e2 e3
  exact ⟨v, T', L, X', hQ, st⟩
theorem zq_callP (X : Stand p l e R s m args below meth c T locs cells slots) (hx : p.tables.exec = Jvm.exec) (hZ : Z.Warmed39 s.vm) {own : String} {index W : Nat} {y : MethodName} {bytes : ByteArray} {maxL : Nat} {ret : Option FieldType} {rm : Room} {r : Value} (hown : s.vm.findClass own = some m.cls)
    (w1 : (Cond.methodLink own index y).before a0 Z = true) (w2 : (Cond.static y).before a0 Z = true) (w3 : (Cond.initialized y.cls).before a0 Z = true) (w4 : (Cond.code y bytes maxL ret).before a0 Z = true) (hy : y.cls ≠ "java/lang/invoke/MethodHandle" ∧ y.cls ≠ "java/lang/invoke/VarHandle") {argsL rest : List Value}
    (hM : zq_Met l Z y bytes maxL ret [] rm argsL.toArray h (zq_pure r h)) (eT : T.heap = h) (hf : rm.frames + 1 ≤ R.frames) (hl : W + (maxL + 11) + rm.locals ≤ R.locals) (hcells : rm.cells = 0) (hslots : rm.slots = 0) (hC : cells ≤ R.cells) (hN : slots ≤ R.slots)
    {g : JFrame} (hg : g.method = m) (hsize : g.locals.size = c.maxLocals) (hlen : ∀ sig, parseMethodDescriptor y.desc = some sig → argsL.length = sig.parameters.length) (hstack : g.stack = argsL.reverse ++ rest) (hW : 2 * g.monitorRoom + (rest.map fun v => v.category).sum ≤ W) (hdg : decode c.code g.pc = .ok (.invokestatic index, 3)) :
    ∃ T' : State, Stand p l e R s m args below meth c T' locs cells slots ∧ T'.heap = h ∧ ∀ target, Steps p.tables e below (T'.setTop { g with pc := g.pc + 3, stack := r :: rest }) target → Steps p.tables e below (T.setTop g) target := by
  obtain ⟨v, T', L, X', ⟨rfl, rfl, q⟩, st⟩ := zq_callS X hx hZ hown w1 w2 w3 w4 hy hM eT hf hl (by rw [hcells]; exact hC) (by rw [hslots]; exact hN) hg hsize hlen hstack hW hdg
  rw [hcells, hslots, List.append_nil] at X'
  exact ⟨T', X', q, st⟩
/-- what the law's own contract says: it returns 1, and wrote to new cells alone -/
def zq_one (n0 : Nat) : Option Value → Heap → List Loc → Prop := fun v _ L => v = some (.int 1) ∧ Fr n0 L
theorem zq_callC (X : Stand p l e R s m args below meth c T locs cells slots) (hx : p.tables.exec = Jvm.exec) (hZ : Z.Warmed39 s.vm) {own : String} {index W : Nat} {y : MethodName} {bytes : ByteArray} {maxL : Nat} {rm : Room} (hy1 : y.name = "<init>") (hown : s.vm.findClass own = some m.cls)
    (w1 : (Cond.methodLink own index y).before a0 Z = true) (w2 : (Cond.instanceMethod y).before a0 Z = true) (w3 : (Cond.initialized y.cls).before a0 Z = true) (w4 : (Cond.code y bytes maxL none).before a0 Z = true) (hy : y.cls ≠ "java/lang/invoke/MethodHandle" ∧ y.cls ≠ "java/lang/invoke/VarHandle") {a : Addr} {argsL rest : List Value}
    (hM : zq_Met l Z y bytes maxL none [] rm (.ref a :: argsL).toArray h Q) (eT : T.heap = h) (hf : rm.frames + 1 ≤ R.frames) (hl : W + (maxL + 11) + rm.locals ≤ R.locals) (hcells : cells + rm.cells ≤ R.cells) (hslots : slots + rm.slots ≤ R.slots)
    {g : JFrame} (hg : g.method = m) (hsize : g.locals.size = c.maxLocals) (hlen : ∀ sig, parseMethodDescriptor y.desc = some sig → argsL.length = sig.parameters.length) (hstack : g.stack = argsL.reverse ++ .ref a :: rest) (hW : 2 * g.monitorRoom + (rest.map fun v => v.category).sum ≤ W) (hdg : decode c.code g.pc = .ok (.invokespecial index, 3)) :
    ∃ (v : Option Value) (T' : State) (L : List Loc), Stand p l e R s m args below meth c T' (locs ++ L) (cells + rm.cells) (slots + rm.slots) ∧ Q v T'.heap L ∧ ∀ target, Steps p.tables e below (T'.setTop { g with pc := g.pc + 3, stack := v.toList ++ rest }) target → Steps p.tables e below (T.setTop g) target := by
  obtain ⟨v, vm₁, ⟨T', L', k', n'⟩, -, X', ⟨L, hQ, e1, e2, e3⟩, st⟩ := X.specialBack hx (y := y) hy1 hown (mvT hZ w1) (mvT hZ w2) (mvT hZ w4) hy (backOf (W := W) hM hZ w4 w3 hf hl) hg hsize (Steps.refl _) hlen hstack hW hdg (fun _ _ => ⟨rfl, eT, hcells, hslots⟩)
  dsimp only [Pt.U, Pt.locs, Pt.cells, Pt.slots] at X' hQ e1 e2 e3 st
  subst e1 e2 e3
  exact ⟨v, T', L, X', hQ, fun t k => st.trans k⟩
theorem zq_callV (X : Stand p l e R s m args below meth c T locs cells slots) (hx : p.tables.exec = Jvm.exec) (hZ : Z.Warmed39 s.vm) {own : String} {index W : Nat} {y : MethodName} {bytes : ByteArray} {maxL : Nat} {ret : Option FieldType} {rm : Room} (hown : s.vm.findClass own = some m.cls)
    (w1 : (Cond.methodLink own index y).before a0 Z = true) (w2 : (Cond.declares y).before a0 Z = true) (w5 : (Cond.selects y.cls y y).before a0 Z = true) (w6 : (Cond.instanceMethod y).before a0 Z = true) (w3 : (Cond.initialized y.cls).before a0 Z = true) (w4 : (Cond.code y bytes maxL ret).before a0 Z = true) (hy : y.cls ≠ "java/lang/invoke/MethodHandle" ∧ y.cls ≠ "java/lang/invoke/VarHandle") {a : Addr} {argsL rest : List Value}
    (hM : zq_Met l Z y bytes maxL ret [] rm (.ref a :: argsL).toArray h Q) (eT : T.heap = h) (E : Exa Z h a y.cls) (hf : rm.frames + 1 ≤ R.frames) (hl : W + (maxL + 11) + rm.locals ≤ R.locals) (hcells : cells + rm.cells ≤ R.cells) (hslots : slots + rm.slots ≤ R.slots)
    {g : JFrame} (hg : g.method = m) (hsize : g.locals.size = c.maxLocals) (hlen : ∀ sig, parseMethodDescriptor y.desc = some sig → argsL.length = sig.parameters.length) (hstack : g.stack = argsL.reverse ++ .ref a :: rest) (hW : 2 * g.monitorRoom + (rest.map fun v => v.category).sum ≤ W) (hdg : decode c.code g.pc = .ok (.invokevirtual index, 3)) :
    ∃ (v : Option Value) (T' : State) (L : List Loc), Stand p l e R s m args below meth c T' (locs ++ L) (cells + rm.cells) (slots + rm.slots) ∧ Q v T'.heap L ∧ ∀ target, Steps p.tables e below (T'.setTop { g with pc := g.pc + 3, stack := v.toList ++ rest }) target → Steps p.tables e below (T.setTop g) target := by
  obtain ⟨cq, kq, q1, q2, q3⟩ := isOf hZ eT E
  obtain ⟨v, vm₁, ⟨T', L', k', n'⟩, -, X', ⟨L, hQ, e1, e2, e3⟩, st⟩ := X.virtualBack hx (y := y) (z := y) hown (mvT hZ w1) (mvT hZ w2) (notFace_of_selects (args := #[]) (mvT hZ w5)) (mvT hZ w5) (mvT hZ w6) hy (backOf (W := W) hM hZ w4 w3 hf hl) q1 q3 hg hsize (Steps.refl _) hlen hstack hW hdg (fun _ _ => ⟨rfl, eT, hcells, hslots⟩)
  dsimp only [Pt.U, Pt.locs, Pt.cells, Pt.slots] at X' hQ e1 e2 e3 st
  subst e1 e2 e3
  exact ⟨v, T', L, X', hQ, fun t k => st.trans k⟩
theorem zq_callVP (X : Stand p l e R s m args below meth c T locs cells slots) (hx : p.tables.exec = Jvm.exec) (hZ : Z.Warmed39 s.vm) {own : String} {index W : Nat} {y : MethodName} {bytes : ByteArray} {maxL : Nat} {ret : Option FieldType} {rm : Room} {r : Value} (hown : s.vm.findClass own = some m.cls)
    (w1 : (Cond.methodLink own index y).before a0 Z = true) (w2 : (Cond.declares y).before a0 Z = true) (w5 : (Cond.selects y.cls y y).before a0 Z = true) (w6 : (Cond.instanceMethod y).before a0 Z = true) (w3 : (Cond.initialized y.cls).before a0 Z = true) (w4 : (Cond.code y bytes maxL ret).before a0 Z = true) (hy : y.cls ≠ "java/lang/invoke/MethodHandle" ∧ y.cls ≠ "java/lang/invoke/VarHandle") {a : Addr} {argsL rest : List Value}
    (hM : zq_Met l Z y bytes maxL ret [] rm (.ref a :: argsL).toArray h (zq_pure r h)) (eT : T.heap = h) (E : Exa Z h a y.cls) (hf : rm.frames + 1 ≤ R.frames) (hl : W + (maxL + 11) + rm.locals ≤ R.locals) (hcells : rm.cells = 0) (hslots : rm.slots = 0) (hC : cells ≤ R.cells) (hN : slots ≤ R.slots)
    {g : JFrame} (hg : g.method = m) (hsize : g.locals.size = c.maxLocals) (hlen : ∀ sig, parseMethodDescriptor y.desc = some sig → argsL.length = sig.parameters.length) (hstack : g.stack = argsL.reverse ++ .ref a :: rest) (hW : 2 * g.monitorRoom + (rest.map fun v => v.category).sum ≤ W) (hdg : decode c.code g.pc = .ok (.invokevirtual index, 3)) :
    ∃ T' : State, Stand p l e R s m args below meth c T' locs cells slots ∧ T'.heap = h ∧ ∀ target, Steps p.tables e below (T'.setTop { g with pc := g.pc + 3, stack := r :: rest }) target → Steps p.tables e below (T.setTop g) target := by
  obtain ⟨v, T', L, X', ⟨rfl, rfl, q⟩, st⟩ := zq_callV X hx hZ hown w1 w2 w5 w6 w3 w4 hy hM eT E hf hl (by rw [hcells]; exact hC) (by rw [hslots]; exact hN) hg hsize hlen hstack hW hdg
  rw [hcells, hslots, List.append_nil] at X'
  exact ⟨T', X', q, st⟩
/-- a constructor (or a void callee) that leaves no trace -/
def zq_void (h0 : Heap) : Option Value → Heap → List Loc → Prop := fun v h L => v = none ∧ L = [] ∧ h = h0
theorem zq_callC0 (X : Stand p l e R s m args below meth c T locs cells slots) (hx : p.tables.exec = Jvm.exec) (hZ : Z.Warmed39 s.vm) {own : String} {index W : Nat} {y : MethodName} {bytes : ByteArray} {maxL : Nat} {rm : Room} (hy1 : y.name = "<init>") (hown : s.vm.findClass own = some m.cls)
    (w1 : (Cond.methodLink own index y).before a0 Z = true) (w2 : (Cond.instanceMethod y).before a0 Z = true) (w3 : (Cond.initialized y.cls).before a0 Z = true) (w4 : (Cond.code y bytes maxL none).before a0 Z = true) (hy : y.cls ≠ "java/lang/invoke/MethodHandle" ∧ y.cls ≠ "java/lang/invoke/VarHandle") {a : Addr} {argsL rest : List Value}
    (hM : zq_Met l Z y bytes maxL none [] rm (.ref a :: argsL).toArray h (zq_void h)) (eT : T.heap = h) (hf : rm.frames + 1 ≤ R.frames) (hl : W + (maxL + 11) + rm.locals ≤ R.locals) (hcells : rm.cells = 0) (hslots : rm.slots = 0) (hC : cells ≤ R.cells) (hN : slots ≤ R.slots)
    {g : JFrame} (hg : g.method = m) (hsize : g.locals.size = c.maxLocals) (hlen : ∀ sig, parseMethodDescriptor y.desc = some sig → argsL.length = sig.parameters.length) (hstack : g.stack = argsL.reverse ++ .ref a :: rest) (hW : 2 * g.monitorRoom + (rest.map fun v => v.category).sum ≤ W) (hdg : decode c.code g.pc = .ok (.invokespecial index, 3)) :
    ∃ T' : State, Stand p l e R s m args below meth c T' locs cells slots ∧ T'.heap = h ∧ ∀ target, Steps p.tables e below (T'.setTop { g with pc := g.pc + 3, stack := rest }) target → Steps p.tables e below (T.setTop g) target := by
  obtain ⟨v, T', L, X', ⟨rfl, rfl, q⟩, st⟩ := zq_callC X hx hZ hy1 hown w1 w2 w3 w4 hy hM eT hf hl (by rw [hcells]; exact hC) (by rw [hslots]; exact hN) hg hsize hlen hstack hW hdg
  rw [hcells, hslots, List.append_nil] at X'
  exact ⟨T', X', q, st⟩
/-- an array of n places; place j holds f j -/
def zq_A (Z : State) (h : Heap) (a : Addr) (ty : FieldType) (n : Nat) (f : Nat → Value) : Prop := ∃ cl : Cell, Arr Z h a cl ty ∧ cl.slots.size = n ∧ ∀ j, j < n → cl.slots[j]? = some (f j)
variable {h' : Heap} {a b : Addr} {ty : FieldType} {n sl : Nat} {f f' : Nat → Value} {v : Value} {as : List Addr}
theorem zq_A.lt (F : zq_A Z h a ty n f) : a < h.size := by obtain ⟨cl, A, -⟩ := F; exact A.lt
theorem zq_A.ext (F : zq_A Z h a ty n f) (E : Ext h h') : zq_A Z h' a ty n f := by obtain ⟨cl, A, r⟩ := F; exact ⟨cl, A.ext E, r⟩
theorem zq_A.other (F : zq_A Z h b ty n f) (W : Wr h h' a sl v) (q : b ≠ a) : zq_A Z h' b ty n f := by obtain ⟨cl, A, r⟩ := F; exact ⟨cl, A.other W q, r⟩
theorem zq_A.keep (F : zq_A Z h a ty n f) (K : Keep h h' as) (q : a ∉ as) : zq_A Z h' a ty n f := by obtain ⟨cl, A, r⟩ := F; exact ⟨cl, ⟨K.2.1 a cl A.1 q, A.2⟩, r⟩
theorem zq_A.congr (F : zq_A Z h a ty n f) (q : ∀ j, j < n → f j = f' j) : zq_A Z h a ty n f' := by obtain ⟨cl, A, S, H⟩ := F; exact ⟨cl, A, S, fun j hj => by rw [← q j hj]; exact H j hj⟩
theorem zq_A.set (F : zq_A Z h a ty n f) (W : Wr h h' a sl v) : zq_A Z h' a ty n (fun j => if j = sl then v else f j) := by
  obtain ⟨cl, A, S, H⟩ := F
  refine ⟨_, A.same W, ?_, fun j hj => ?_⟩
  · show (cl.slots.setIfInBounds sl v).size = n
    rw [Array.size_setIfInBounds]; exact S
  · show (cl.slots.setIfInBounds sl v)[j]? = some (if j = sl then v else f j)
    by_cases q : j = sl
    · subst q
      rw [if_pos rfl, Array.getElem?_setIfInBounds_self_of_lt (by rw [S]; exact hj)]
    · rw [if_neg q, Array.getElem?_setIfInBounds_ne (Ne.symm q)]; exact H j hj
theorem zq_inb {cl : Cell} {j : Int32} {i : Nat} (S : cl.slots.size = n) (hj : j.toNatClampNeg = i) (h0 : ¬ j < 0) (hi : i < n) : ¬ (j < 0 ∨ cl.slots.size ≤ j.toNatClampNeg) := by
  rintro (q | q)
  · exact h0 q
  · omega
theorem zq_ldI (X : Stand p l e R s m args below meth c T locs cells slots) (hx : p.tables.exec = Jvm.exec) (hZ : Z.Warmed39 s.vm) (eT : T.heap = h) (F : zq_A Z h a .int n f) {j : Int32} {i : Nat} (hj : j.toNatClampNeg = i) (h0 : ¬ j < 0) (hi : i < n)
    {g : JFrame} (hg : g.method = m) {rest : List Value} (hs : g.stack = .int j :: .ref a :: rest) (hd : decode c.code g.pc = .ok (.iaload, 1)) : ∀ target, Steps p.tables e below (T.setTop { g with pc := g.pc + 1, stack := f i :: rest }) target → Steps p.tables e below (T.setTop g) target := by
  obtain ⟨cl, A, S, H⟩ := F
  exact fun t k => X.iaload hx (j := j) (v := f i) (by rw [eT]; exact A.1) (State.isArrayOf_alike hZ.alike A.2.1) A.2.2 (zq_inb S hj h0 hi) (by rw [hj]; exact H i hi) hg hs hd t k
theorem zq_ldB (X : Stand p l e R s m args below meth c T locs cells slots) (hx : p.tables.exec = Jvm.exec) (hZ : Z.Warmed39 s.vm) (eT : T.heap = h) (F : zq_A Z h a .byte n f) {j : Int32} {i : Nat} (hj : j.toNatClampNeg = i) (h0 : ¬ j < 0) (hi : i < n)
    {g : JFrame} (hg : g.method = m) {rest : List Value} (hs : g.stack = .int j :: .ref a :: rest) (hd : decode c.code g.pc = .ok (.baload, 1)) : ∀ target, Steps p.tables e below (T.setTop { g with pc := g.pc + 1, stack := f i :: rest }) target → Steps p.tables e below (T.setTop g) target := by
  obtain ⟨cl, A, S, H⟩ := F
  exact fun t k => X.baloadBytes hx (j := j) (v := f i) (by rw [eT]; exact A.1) (State.isArrayOf_alike hZ.alike A.2.1) A.2.2 (zq_inb S hj h0 hi) (by rw [hj]; exact H i hi) hg hs hd t k
theorem zq_ldC (X : Stand p l e R s m args below meth c T locs cells slots) (hx : p.tables.exec = Jvm.exec) (hZ : Z.Warmed39 s.vm) (eT : T.heap = h) (F : zq_A Z h a .char n f) {j : Int32} {i : Nat} (hj : j.toNatClampNeg = i) (h0 : ¬ j < 0) (hi : i < n)
    {g : JFrame} (hg : g.method = m) {rest : List Value} (hs : g.stack = .int j :: .ref a :: rest) (hd : decode c.code g.pc = .ok (.caload, 1)) : ∀ target, Steps p.tables e below (T.setTop { g with pc := g.pc + 1, stack := f i :: rest }) target → Steps p.tables e below (T.setTop g) target := by
  obtain ⟨cl, A, S, H⟩ := F
  exact fun t k => X.caload hx (j := j) (v := f i) (by rw [eT]; exact A.1) (State.isArrayOf_alike hZ.alike A.2.1) A.2.2 (zq_inb S hj h0 hi) (by rw [hj]; exact H i hi) hg hs hd t k
theorem zq_ldJ (X : Stand p l e R s m args below meth c T locs cells slots) (hx : p.tables.exec = Jvm.exec) (hZ : Z.Warmed39 s.vm) (eT : T.heap = h) (F : zq_A Z h a .long n f) {j : Int32} {i : Nat} (hj : j.toNatClampNeg = i) (h0 : ¬ j < 0) (hi : i < n)
    {g : JFrame} (hg : g.method = m) {rest : List Value} (hs : g.stack = .int j :: .ref a :: rest) (hd : decode c.code g.pc = .ok (.laload, 1)) : ∀ target, Steps p.tables e below (T.setTop { g with pc := g.pc + 1, stack := f i :: rest }) target → Steps p.tables e below (T.setTop g) target := by
  obtain ⟨cl, A, S, H⟩ := F
  exact fun t k => X.laload hx (j := j) (v := f i) (by rw [eT]; exact A.1) (State.isArrayOf_alike hZ.alike A.2.1) A.2.2 (zq_inb S hj h0 hi) (by rw [hj]; exact H i hi) hg hs hd t k
theorem zq_len (X : Stand p l e R s m args below meth c T locs cells slots) (hx : p.tables.exec = Jvm.exec) (hZ : Z.Warmed39 s.vm) (eT : T.heap = h) (F : zq_A Z h a ty n f)
    {g : JFrame} (hg : g.method = m) {rest : List Value} (hs : g.stack = .ref a :: rest) (hd : decode c.code g.pc = .ok (.arraylength, 1)) : ∀ target, Steps p.tables e below (T.setTop { g with pc := g.pc + 1, stack := .int n.toInt32 :: rest }) target → Steps p.tables e below (T.setTop g) target := by
  obtain ⟨cl, A, S, H⟩ := F
  subst S
  exact fun t k => X.arraylength hx (by rw [eT]; exact A.1) (State.isArrayOf_alike hZ.alike A.2.1) hg hs hd t k
theorem zq_stI (X : Stand p l e R s m args below meth c T locs cells slots) (hx : p.tables.exec = Jvm.exec) (hZ : Z.Warmed39 s.vm) (eT : T.heap = h) (F : zq_A Z h a .int n f) {j x : Int32} {i : Nat} (hj : j.toNatClampNeg = i) (h0 : ¬ j < 0) (hi : i < n)
    {g : JFrame} (hg : g.method = m) {rest : List Value} (hs : g.stack = .int x :: .int j :: .ref a :: rest) (hd : decode c.code g.pc = .ok (.iastore, 1)) :
    ∃ T' h', Stand p l e R s m args below meth c T' (locs ++ [⟨a, i⟩]) cells slots ∧ T'.heap = h' ∧ Wr h h' a i (.int x) ∧ zq_A Z h' a .int n (fun k => if k = i then .int x else f k) ∧ ∀ target, Steps p.tables e below (T'.setTop { g with pc := g.pc + 1, stack := rest }) target → Steps p.tables e below (T.setTop g) target := by
  obtain ⟨cl, A, S, H⟩ := F
  subst hj
  obtain ⟨T', h', X', e', W, st⟩ := stI X hx hZ eT A (zq_inb S rfl h0 hi) hg hs hd
  exact ⟨T', h', X', e', W, zq_A.set ⟨cl, A, S, H⟩ W, st⟩
theorem zq_stB (X : Stand p l e R s m args below meth c T locs cells slots) (hx : p.tables.exec = Jvm.exec) (hZ : Z.Warmed39 s.vm) (eT : T.heap = h) (F : zq_A Z h a .byte n f) {j x : Int32} {i : Nat} (hj : j.toNatClampNeg = i) (h0 : ¬ j < 0) (hi : i < n)
    {g : JFrame} (hg : g.method = m) {rest : List Value} (hs : g.stack = .int x :: .int j :: .ref a :: rest) (hd : decode c.code g.pc = .ok (.bastore, 1)) :
    ∃ T' h', Stand p l e R s m args below meth c T' (locs ++ [⟨a, i⟩]) cells slots ∧ T'.heap = h' ∧ Wr h h' a i (.int x.toInt8.toInt32) ∧ zq_A Z h' a .byte n (fun k => if k = i then .int x.toInt8.toInt32 else f k) ∧ ∀ target, Steps p.tables e below (T'.setTop { g with pc := g.pc + 1, stack := rest }) target → Steps p.tables e below (T.setTop g) target := by
  obtain ⟨cl, A, S, H⟩ := F
  subst hj
  obtain ⟨T', h', X', e', W, st⟩ := stB X hx hZ eT A (zq_inb S rfl h0 hi) hg hs hd
  exact ⟨T', h', X', e', W, zq_A.set ⟨cl, A, S, H⟩ W, st⟩
theorem zq_stC (X : Stand p l e R s m args below meth c T locs cells slots) (hx : p.tables.exec = Jvm.exec) (hZ : Z.Warmed39 s.vm) (eT : T.heap = h) (F : zq_A Z h a .char n f) {j x : Int32} {i : Nat} (hj : j.toNatClampNeg = i) (h0 : ¬ j < 0) (hi : i < n)
    {g : JFrame} (hg : g.method = m) {rest : List Value} (hs : g.stack = .int x :: .int j :: .ref a :: rest) (hd : decode c.code g.pc = .ok (.castore, 1)) :
    ∃ T' h', Stand p l e R s m args below meth c T' (locs ++ [⟨a, i⟩]) cells slots ∧ T'.heap = h' ∧ Wr h h' a i (.int x.toUInt32.toUInt16.toUInt32.toInt32) ∧ zq_A Z h' a .char n (fun k => if k = i then .int x.toUInt32.toUInt16.toUInt32.toInt32 else f k) ∧ ∀ target, Steps p.tables e below (T'.setTop { g with pc := g.pc + 1, stack := rest }) target → Steps p.tables e below (T.setTop g) target := by
  obtain ⟨cl, A, S, H⟩ := F
  subst hj
  obtain ⟨T', h', X', e', W, st⟩ := stC X hx hZ eT A (zq_inb S rfl h0 hi) hg hs hd
  exact ⟨T', h', X', e', W, zq_A.set ⟨cl, A, S, H⟩ W, st⟩
theorem zq_stJ (X : Stand p l e R s m args below meth c T locs cells slots) (hx : p.tables.exec = Jvm.exec) (hZ : Z.Warmed39 s.vm) (eT : T.heap = h) (F : zq_A Z h a .long n f) {j : Int32} {x : Int64} {i : Nat} (hj : j.toNatClampNeg = i) (h0 : ¬ j < 0) (hi : i < n)
    {g : JFrame} (hg : g.method = m) {rest : List Value} (hs : g.stack = .long x :: .int j :: .ref a :: rest) (hd : decode c.code g.pc = .ok (.lastore, 1)) :
    ∃ T' h', Stand p l e R s m args below meth c T' (locs ++ [⟨a, i⟩]) cells slots ∧ T'.heap = h' ∧ Wr h h' a i (.long x) ∧ zq_A Z h' a .long n (fun k => if k = i then .long x else f k) ∧ ∀ target, Steps p.tables e below (T'.setTop { g with pc := g.pc + 1, stack := rest }) target → Steps p.tables e below (T.setTop g) target := by
  obtain ⟨cl, A, S, H⟩ := F
  subst hj
  obtain ⟨T', h', X', e', W, st⟩ := stJ X hx hZ eT A (zq_inb S rfl h0 hi) hg hs hd
  exact ⟨T', h', X', e', W, zq_A.set ⟨cl, A, S, H⟩ W, st⟩
theorem zq_newA (X : Stand p l e R s m args below meth c T locs cells slots) (hx : p.tables.exec = Jvm.exec) (hZ : Z.Warmed39 s.vm) {aty : ArrayType} (w : (Cond.arrayClass (newarray.typeOf aty)).before a0 Z = true) (eT : T.heap = h) {g : JFrame} (hg : g.method = m) (hd : decode c.code g.pc = .ok (.newarray aty, 2)) {j : Int32} {rest : List Value} (hs : g.stack = .int j :: rest)
    (h0 : ¬ j < 0) (hj : j.toNatClampNeg = n) {cap : Nat} (hcap : n ≤ cap) (hb : cap * 8 ≤ 536870912) (hc : cells + 1 ≤ R.cells) (hl : slots + cap ≤ R.slots) :
    ∃ T' h' b, b = h.size ∧ Stand p l e R s m args below meth c T' locs (cells + 1) (slots + cap) ∧ T'.heap = h' ∧ Ext h h' ∧ zq_A Z h' b (newarray.typeOf aty) n (fun _ => defaultValue (newarray.typeOf aty)) ∧
      ∀ target, Steps p.tables e below (T'.setTop { g with pc := g.pc + 2, stack := .ref b :: rest }) target → Steps p.tables e below (T.setTop g) target := by
  obtain ⟨T', h', cA, X', e', E', A', st⟩ := newP X hx hZ w eT hg hd hs h0 (cap := cap) (by rw [hj]; exact hcap) hb hc hl
  refine ⟨T', h', _, rfl, X', e', E', ⟨_, A', by rw [sz_new]; exact hj, fun i hi => ?_⟩, st⟩
  show (Array.replicate j.toNatClampNeg _)[i]? = _
  rw [hj, Array.getElem?_replicate, if_pos hi]
theorem zq_newO (X : Stand p l e R s m args below meth c T locs cells slots) (hx : p.tables.exec = Jvm.exec) (hZ : Z.Warmed39 s.vm) {own C : String} {index n : Nat} (hown : s.vm.findClass own = some m.cls) (w : (Cond.classLink own index C).before a0 Z = true) (wi : (Cond.instantiable C n).before a0 Z = true) (wz : (Cond.initialized C).before a0 Z = true) (eT : T.heap = h)
    {g : JFrame} (hg : g.method = m) (hd : decode c.code g.pc = .ok (.new index, 3)) (hc : cells + 1 ≤ R.cells) (hl : slots + n ≤ R.slots) :
    ∃ T' h' b, b = h.size ∧ Stand p l e R s m args below meth c T' locs (cells + 1) (slots + n) ∧ T'.heap = h' ∧ Ext h h' ∧ Exa Z h' b C ∧ (∀ {O nm d : String} {ty : FieldType}, Laid Z a0 C O nm d → parseFieldDescriptor d = some ty → Fld Z h' b O nm d (defaultValue ty)) ∧
      ∀ target, Steps p.tables e below (T'.setTop { g with pc := g.pc + 3, stack := .ref b :: g.stack }) target → Steps p.tables e below (T.setTop g) target := by
  obtain ⟨T', h', X', e', E', A', D', -, st⟩ := newO X hx hZ hown w wi wz eT hg hd hc hl
  exact ⟨T', h', _, rfl, X', e', E', A', D', st⟩
theorem zq_ne (F : a < h.size) (q : b = h.size) : a ≠ b := fun e => absurd F (by rw [e, q]; exact Nat.lt_irrefl _)
theorem zq_ne' (F : a < h.size) (q : b = h.size) : b ≠ a := fun e => absurd F (by rw [← e, q]; exact Nat.lt_irrefl _)
end Own
def zq_in (x m : Int32) : Int32 := if x < 0 then 0 else if m < x then 0 else 1
def zq_all (u : Nat → Int32) (mx : Int32) : Nat → Nat → Int32
  | 0, _ => 1
  | k + 1, i => if zq_in (u i) mx = 0 then 0 else zq_all u mx k (i + 1)
theorem zq_in1 {x m : Int32} (h : x < 0) : zq_in x m = 0 := by unfold zq_in; rw [if_pos h]
theorem zq_in2 {x m : Int32} (h : ¬ x < 0) (g : m < x) : zq_in x m = 0 := by unfold zq_in; rw [if_neg h, if_pos g]
theorem zq_in3 {x m : Int32} (h : ¬ x < 0) (g : ¬ m < x) : zq_in x m = 1 := by unfold zq_in; rw [if_neg h, if_neg g]
theorem zq_lt {i n : Nat} (hn : n < 2147483648) (hi : i ≤ n) : i.toInt32 < n.toInt32 ↔ i < n := by
  rw [Int32.lt_iff_toInt_lt, len_toInt (show n < 2 ^ 31 by omega), len_toInt (show i < 2 ^ 31 by omega)]; omega
theorem zq_inc {i : Nat} (hi : i < 2147483647) : i.toInt32 + 1 = (i + 1).toInt32 := by
  apply Int32.toInt_inj.mp
  have a := c_iadd i.toInt32 1
  rw [show (1 : Int32).toInt = 1 from by decide] at a
  have b := len_toInt (show i < 2 ^ 31 by omega)
  have c := len_toInt (show i + 1 < 2 ^ 31 by omega)
  have r := rng32 (i.toInt32 + 1)
  omega
theorem zq_cl {i : Nat} (hi : i < 2147483648) : i.toInt32.toNatClampNeg = i := by
  have b := len_toInt (show i < 2 ^ 31 by omega)
  simp only [Int32.toNatClampNeg, b]; omega
theorem zq_nn {i : Nat} (hi : i < 2147483648) : ¬ i.toInt32 < 0 := by
  have b := len_toInt (show i < 2 ^ 31 by omega)
  rw [Int32.lt_iff_toInt_lt, b, show (0 : Int32).toInt = 0 from by decide]; omega
theorem zq_os {v0 v1 v2 v3 v4 : Value} {s5 : Slot} {v : Int32} (h : One s5) : storeLocals #[.val v0, .val v1, .val v2, .val v3, .val v4, s5] 5 (.int v) = some #[.val v0, .val v1, .val v2, .val v3, .val v4, .val (.int v)] := by
  rcases h with rfl | ⟨w, rfl, hw⟩
  · rfl
  · cases w <;> first | rfl | (simp [Value.category] at hw)
theorem zq_low {y : Int32} {k : Nat} (h0 : 0 ≤ y.toInt) (h1 : y.toInt < k) (hk : k ≤ 2147483648) : ∃ n : Fin k, y = Int32.ofNat n := by
  have q : ¬ y < 0 := by rw [Int32.lt_iff_toInt_lt]; simp only [Int32.reduceToInt]; omega
  refine ⟨⟨y.toNatClampNeg, by simp only [Int32.toNatClampNeg]; omega⟩, (back32 q).1.symm⟩
def zq_N (x : Int32) : Int32 := (x &&& (3 : Int32))

theorem zq_nfin (x : Int32) : ∃ n : Fin 4, zq_N x = Int32.ofNat n := by
  have q := c_mask x 3 2 (by decide) (by decide)
  rw [show ((2 ^ 2 : Nat) : Int) = 4 from rfl] at q
  exact zq_low (show 0 ≤ (x &&& (3 : Int32)).toInt by omega) (show (x &&& (3 : Int32)).toInt < _ by omega) (by decide)
theorem zq_ns (x : Int32) : zq_N x = 0 ∨ zq_N x = 1 ∨ zq_N x = 2 ∨ zq_N x = 3 := by
  obtain ⟨n, e⟩ := zq_nfin x
  rw [e]
  clear e
  revert n
  decide +kernel
theorem zq_l0 (x : Int32) : x.toInt64 < (0 : Int64) ↔ x < 0 := by rw [Int64.lt_iff_toInt_lt, Int32.lt_iff_toInt_lt, c_i2l]; rfl
theorem zq_l1 (x y : Int32) : x.toInt64 < y.toInt64 ↔ x < y := by rw [Int64.lt_iff_toInt_lt, Int32.lt_iff_toInt_lt, c_i2l, c_i2l]
theorem zq_pn0 : plainName "com/example/polyglyph/polyglyph/wire/PrimitiveArrays" = true := by first | (simp [plainName, overriddenIn]; done) | decide +kernel
theorem zq_d1_0 : decode prog_95_method_27_code 0 = .ok (.aload_n 0, 1) := by decide +kernel
theorem zq_d1_1 : decode prog_95_method_27_code 1 = .ok (.astore_n 2, 1) := by decide +kernel
theorem zq_d1_2 : decode prog_95_method_27_code 2 = .ok (.aload_n 2, 1) := by decide +kernel
theorem zq_d1_3 : decode prog_95_method_27_code 3 = .ok (.arraylength, 1) := by decide +kernel
theorem zq_d1_4 : decode prog_95_method_27_code 4 = .ok (.istore_n 3, 1) := by decide +kernel
theorem zq_d1_5 : decode prog_95_method_27_code 5 = .ok (.iconst 0, 1) := by decide +kernel
theorem zq_d1_6 : decode prog_95_method_27_code 6 = .ok (.istore 4, 2) := by decide +kernel
theorem zq_d1_8 : decode prog_95_method_27_code 8 = .ok (.iload 4, 2) := by decide +kernel
theorem zq_d1_10 : decode prog_95_method_27_code 10 = .ok (.iload_n 3, 1) := by decide +kernel
theorem zq_d1_11 : decode prog_95_method_27_code 11 = .ok (.if_icmp .ge 28, 3) := by decide +kernel
theorem zq_d1_14 : decode prog_95_method_27_code 14 = .ok (.aload_n 2, 1) := by decide +kernel
theorem zq_d1_15 : decode prog_95_method_27_code 15 = .ok (.iload 4, 2) := by decide +kernel
theorem zq_d1_17 : decode prog_95_method_27_code 17 = .ok (.iaload, 1) := by decide +kernel
theorem zq_d1_18 : decode prog_95_method_27_code 18 = .ok (.istore 5, 2) := by decide +kernel
theorem zq_d1_20 : decode prog_95_method_27_code 20 = .ok (.iload 5, 2) := by decide +kernel
theorem zq_d1_22 : decode prog_95_method_27_code 22 = .ok (.ifCond .lt 9, 3) := by decide +kernel
theorem zq_d1_25 : decode prog_95_method_27_code 25 = .ok (.iload 5, 2) := by decide +kernel
theorem zq_d1_27 : decode prog_95_method_27_code 27 = .ok (.iload_n 1, 1) := by decide +kernel
theorem zq_d1_28 : decode prog_95_method_27_code 28 = .ok (.if_icmp .le 5, 3) := by decide +kernel
theorem zq_d1_31 : decode prog_95_method_27_code 31 = .ok (.iconst 0, 1) := by decide +kernel
theorem zq_d1_32 : decode prog_95_method_27_code 32 = .ok (.ireturn, 1) := by decide +kernel
theorem zq_d1_33 : decode prog_95_method_27_code 33 = .ok (.iinc 4 1, 3) := by decide +kernel
theorem zq_d1_36 : decode prog_95_method_27_code 36 = .ok (.goto (-28), 3) := by decide +kernel
theorem zq_d1_39 : decode prog_95_method_27_code 39 = .ok (.iconst 1, 1) := by decide +kernel
theorem zq_d1_40 : decode prog_95_method_27_code 40 = .ok (.ireturn, 1) := by decide +kernel
theorem zq_ef1 (m : MethodId) (x0 : Addr) (x1 : Int32) : entryFrame m #[(.ref x0), (.int x1)] 6 = mkF m 0 #[.val (.ref x0), .val (.int x1), .unset, .unset, .unset, .unset] [] := by first | (simp [entryFrame, mkF, argsToLocals, Value.category]; done) | rfl
set_option maxRecDepth 65536 in
set_option maxHeartbeats 40000000 in
theorem zq_rmA (l : Launch) (Z : State) (a0 : Array Value) (hw : ∀ d ∈ tables_1, d.before a0 Z = true) (ws : List Jvm.Cond) (a : Addr) (mx : Int32) (h0 : Heap) (n : Nat) (u : Nat → Int32) (A_a : zq_A Z h0 a .int n (fun k => .int (u k))) (hn : n < 2147483647) :
    zq_Met l Z (⟨"com/example/polyglyph/polyglyph/wire/PrimitiveArrays", "allWithin", "([II)Z"⟩ : MethodName) prog_95_method_27_code 6 (some .boolean) ws ({ frames := 0, cells := 0, slots := 0, locals := 0 } : Room) #[(.ref a), (.int mx)] h0 (zq_pure (.int (zq_all u mx n 0)) h0) := by
  refine zq_body (plainFor_of_name zq_pn0) ?_
  intro p e s m below meth c s₁ hx hZ hby hml hret hlk hown hnm X0 e0
  refine zq_go (fun _ k => castTop (zq_ef1 m a mx) k) ?_
  show zq_Go p e below s _ _ _ (s₁.setTop (mkF m 0 #[.val (.ref a), .val (.int mx), .unset, .unset, .unset, .unset] []))
  refine zq_go (fun _ k => XS.aloadN X0.here hx rfl (hb hby zq_d1_0) rfl rfl k) ?_
  show zq_Go p e below s _ _ _ (s₁.setTop (mkF m 1 #[.val (.ref a), .val (.int mx), .unset, .unset, .unset, .unset] [(.ref a)]))
  refine zq_go (fun _ k => XS.astoreN X0.here hx rfl (hb hby zq_d1_1) rfl rfl (l' := #[.val (.ref a), .val (.int mx), .val (.ref a), .unset, .unset, .unset]) rfl k) ?_
  show zq_Go p e below s _ _ _ (s₁.setTop (mkF m 2 #[.val (.ref a), .val (.int mx), .val (.ref a), .unset, .unset, .unset] []))
  refine zq_go (fun _ k => XS.aloadN X0.here hx rfl (hb hby zq_d1_2) rfl rfl k) ?_
  show zq_Go p e below s _ _ _ (s₁.setTop (mkF m 3 #[.val (.ref a), .val (.int mx), .val (.ref a), .unset, .unset, .unset] [(.ref a)]))
  refine zq_go (zq_len X0 hx hZ e0 A_a (g := (mkF m 3 #[.val (.ref a), .val (.int mx), .val (.ref a), .unset, .unset, .unset] [(.ref a)])) rfl rfl (hb hby zq_d1_3)) ?_
  show zq_Go p e below s _ _ _ (s₁.setTop (mkF m 4 #[.val (.ref a), .val (.int mx), .val (.ref a), .unset, .unset, .unset] [(.int (Nat.toInt32 n))]))
  refine zq_go (fun _ k => XS.istoreN X0.here hx rfl (hb hby zq_d1_4) rfl (l' := #[.val (.ref a), .val (.int mx), .val (.ref a), .val (.int (Nat.toInt32 n)), .unset, .unset]) rfl k) ?_
  show zq_Go p e below s _ _ _ (s₁.setTop (mkF m 5 #[.val (.ref a), .val (.int mx), .val (.ref a), .val (.int (Nat.toInt32 n)), .unset, .unset] []))
  refine zq_go (fun _ k => XS.iconst X0.here hx rfl (hb hby zq_d1_5) k) ?_
  show zq_Go p e below s _ _ _ (s₁.setTop (mkF m 6 #[.val (.ref a), .val (.int mx), .val (.ref a), .val (.int (Nat.toInt32 n)), .unset, .unset] [(.int (0 : Int32))]))
  refine zq_go (fun _ k => XS.istore X0.here hx rfl (hb hby zq_d1_6) rfl (l' := #[.val (.ref a), .val (.int mx), .val (.ref a), .val (.int (Nat.toInt32 n)), .val (.int (0 : Int32)), .unset]) rfl k) ?_
  have loop : ∀ (k i : Nat) (s5 : Slot), One s5 → i + k = n → zq_all u mx k i = zq_all u mx n 0 → zq_Go p e below s (zq_pure (.int (zq_all u mx n 0)) h0) ({ frames := 0, cells := 0, slots := 0, locals := 0 } : Room).cells ({ frames := 0, cells := 0, slots := 0, locals := 0 } : Room).slots (s₁.setTop (mkF m 8 #[.val (.ref a), .val (.int mx), .val (.ref a), .val (.int (Nat.toInt32 n)), .val (.int (Nat.toInt32 i)), s5] [])) := by
    intro k
    induction k with
    | zero =>
      intro i s5 h5 ik ie
      show zq_Go p e below s _ _ _ (s₁.setTop (mkF m 8 #[.val (.ref a), .val (.int mx), .val (.ref a), .val (.int (Nat.toInt32 n)), .val (.int (Nat.toInt32 i)), s5] []))
      refine zq_go (fun _ k => XS.iload X0.here hx rfl (hb hby zq_d1_8) rfl k) ?_
      show zq_Go p e below s _ _ _ (s₁.setTop (mkF m 10 #[.val (.ref a), .val (.int mx), .val (.ref a), .val (.int (Nat.toInt32 n)), .val (.int (Nat.toInt32 i)), s5] [(.int (Nat.toInt32 i))]))
      refine zq_go (fun _ k => XS.iloadN X0.here hx rfl (hb hby zq_d1_10) rfl k) ?_
      show zq_Go p e below s _ _ _ (s₁.setTop (mkF m 11 #[.val (.ref a), .val (.int mx), .val (.ref a), .val (.int (Nat.toInt32 n)), .val (.int (Nat.toInt32 i)), s5] [(.int (Nat.toInt32 n)), (.int (Nat.toInt32 i))]))
      refine zq_go (fun _ k => XS.icmpYes X0.here hx rfl (pc0 := 11) (pc' := 39) rfl (hb hby zq_d1_11) rfl (flt (fun q => absurd ((zq_lt (by omega) (by omega)).mp q) (by omega) : ¬ ((Nat.toInt32 i) < (Nat.toInt32 n)))).2.1 (by decide) (by decide) k) ?_
      show zq_Go p e below s _ _ _ (s₁.setTop (mkF m 39 #[.val (.ref a), .val (.int mx), .val (.ref a), .val (.int (Nat.toInt32 n)), .val (.int (Nat.toInt32 i)), s5] []))
      refine zq_go (fun _ k => XS.iconst X0.here hx rfl (hb hby zq_d1_39) k) ?_
      show zq_Go p e below s _ _ _ (s₁.setTop (mkF m 40 #[.val (.ref a), .val (.int mx), .val (.ref a), .val (.int (Nat.toInt32 n)), .val (.int (Nat.toInt32 i)), s5] [(.int (1 : Int32))]))
      exact zq_retN X0 hx hlk (t := .boolean) hret (by simp) (hb hby zq_d1_40) ⟨congrArg (fun z => some (Value.int z)) (show (1 : Int32) = _ from ie), rfl, e0⟩ (by decide) (by decide)
    | succ k ih =>
      intro i s5 h5 ik ie
      have hi : i < n := by omega
      show zq_Go p e below s _ _ _ (s₁.setTop (mkF m 8 #[.val (.ref a), .val (.int mx), .val (.ref a), .val (.int (Nat.toInt32 n)), .val (.int (Nat.toInt32 i)), s5] []))
      refine zq_go (fun _ k => XS.iload X0.here hx rfl (hb hby zq_d1_8) rfl k) ?_
      show zq_Go p e below s _ _ _ (s₁.setTop (mkF m 10 #[.val (.ref a), .val (.int mx), .val (.ref a), .val (.int (Nat.toInt32 n)), .val (.int (Nat.toInt32 i)), s5] [(.int (Nat.toInt32 i))]))
      refine zq_go (fun _ k => XS.iloadN X0.here hx rfl (hb hby zq_d1_10) rfl k) ?_
      show zq_Go p e below s _ _ _ (s₁.setTop (mkF m 11 #[.val (.ref a), .val (.int mx), .val (.ref a), .val (.int (Nat.toInt32 n)), .val (.int (Nat.toInt32 i)), s5] [(.int (Nat.toInt32 n)), (.int (Nat.toInt32 i))]))
      refine zq_go (fun _ k => XS.icmpNo X0.here hx rfl (hb hby zq_d1_11) rfl (tlt ((zq_lt (by omega) (by omega)).mpr hi : (Nat.toInt32 i) < (Nat.toInt32 n))).2.1 k) ?_
      show zq_Go p e below s _ _ _ (s₁.setTop (mkF m 14 #[.val (.ref a), .val (.int mx), .val (.ref a), .val (.int (Nat.toInt32 n)), .val (.int (Nat.toInt32 i)), s5] []))
      refine zq_go (fun _ k => XS.aloadN X0.here hx rfl (hb hby zq_d1_14) rfl rfl k) ?_
      show zq_Go p e below s _ _ _ (s₁.setTop (mkF m 15 #[.val (.ref a), .val (.int mx), .val (.ref a), .val (.int (Nat.toInt32 n)), .val (.int (Nat.toInt32 i)), s5] [(.ref a)]))
      refine zq_go (fun _ k => XS.iload X0.here hx rfl (hb hby zq_d1_15) rfl k) ?_
      show zq_Go p e below s _ _ _ (s₁.setTop (mkF m 17 #[.val (.ref a), .val (.int mx), .val (.ref a), .val (.int (Nat.toInt32 n)), .val (.int (Nat.toInt32 i)), s5] [(.int (Nat.toInt32 i)), (.ref a)]))
      refine zq_go (zq_ldI X0 hx hZ e0 A_a (j := (Nat.toInt32 i)) (i := i) (zq_cl (by omega)) (zq_nn (by omega)) hi (g := (mkF m 17 #[.val (.ref a), .val (.int mx), .val (.ref a), .val (.int (Nat.toInt32 n)), .val (.int (Nat.toInt32 i)), s5] [(.int (Nat.toInt32 i)), (.ref a)])) rfl rfl (hb hby zq_d1_17)) ?_
      show zq_Go p e below s _ _ _ (s₁.setTop (mkF m 18 #[.val (.ref a), .val (.int mx), .val (.ref a), .val (.int (Nat.toInt32 n)), .val (.int (Nat.toInt32 i)), s5] [(.int (u i))]))
      refine zq_go (fun _ k => XS.istore X0.here hx rfl (hb hby zq_d1_18) rfl (l' := #[.val (.ref a), .val (.int mx), .val (.ref a), .val (.int (Nat.toInt32 n)), .val (.int (Nat.toInt32 i)), .val (.int (u i))]) (zq_os h5) k) ?_
      show zq_Go p e below s _ _ _ (s₁.setTop (mkF m 20 #[.val (.ref a), .val (.int mx), .val (.ref a), .val (.int (Nat.toInt32 n)), .val (.int (Nat.toInt32 i)), .val (.int (u i))] []))
      refine zq_go (fun _ k => XS.iload X0.here hx rfl (hb hby zq_d1_20) rfl k) ?_
      show zq_Go p e below s _ _ _ (s₁.setTop (mkF m 22 #[.val (.ref a), .val (.int mx), .val (.ref a), .val (.int (Nat.toInt32 n)), .val (.int (Nat.toInt32 i)), .val (.int (u i))] [(.int (u i))]))
      by_cases hc22 : (u i) < (0 : Int32)
      ·
        refine zq_go (fun _ k => XS.ifYes X0.here hx rfl (pc0 := 22) (pc' := 31) rfl (hb hby zq_d1_22) rfl ((if0 _ _).trans (tlt hc22).1) (by decide) (by decide) k) ?_
        show zq_Go p e below s _ _ _ (s₁.setTop (mkF m 31 #[.val (.ref a), .val (.int mx), .val (.ref a), .val (.int (Nat.toInt32 n)), .val (.int (Nat.toInt32 i)), .val (.int (u i))] []))
        refine zq_go (fun _ k => XS.iconst X0.here hx rfl (hb hby zq_d1_31) k) ?_
        show zq_Go p e below s _ _ _ (s₁.setTop (mkF m 32 #[.val (.ref a), .val (.int mx), .val (.ref a), .val (.int (Nat.toInt32 n)), .val (.int (Nat.toInt32 i)), .val (.int (u i))] [(.int (0 : Int32))]))
        exact zq_retN X0 hx hlk (t := .boolean) hret (by simp) (hb hby zq_d1_32) ⟨by rw [← ie]; show _ = some (Value.int (if zq_in (u i) mx = 0 then _ else _)); rw [if_pos (zq_in1 hc22)]; rfl, rfl, e0⟩ (by decide) (by decide)
      refine zq_go (fun _ k => XS.ifNo X0.here hx rfl (hb hby zq_d1_22) rfl ((if0 _ _).trans (flt hc22).1) k) ?_
      show zq_Go p e below s _ _ _ (s₁.setTop (mkF m 25 #[.val (.ref a), .val (.int mx), .val (.ref a), .val (.int (Nat.toInt32 n)), .val (.int (Nat.toInt32 i)), .val (.int (u i))] []))
      refine zq_go (fun _ k => XS.iload X0.here hx rfl (hb hby zq_d1_25) rfl k) ?_
      show zq_Go p e below s _ _ _ (s₁.setTop (mkF m 27 #[.val (.ref a), .val (.int mx), .val (.ref a), .val (.int (Nat.toInt32 n)), .val (.int (Nat.toInt32 i)), .val (.int (u i))] [(.int (u i))]))
      refine zq_go (fun _ k => XS.iloadN X0.here hx rfl (hb hby zq_d1_27) rfl k) ?_
      show zq_Go p e below s _ _ _ (s₁.setTop (mkF m 28 #[.val (.ref a), .val (.int mx), .val (.ref a), .val (.int (Nat.toInt32 n)), .val (.int (Nat.toInt32 i)), .val (.int (u i))] [(.int mx), (.int (u i))]))
      by_cases hc28 : mx < (u i)
      ·
        refine zq_go (fun _ k => XS.icmpNo X0.here hx rfl (hb hby zq_d1_28) rfl (tlt hc28).2.2.2 k) ?_
        show zq_Go p e below s _ _ _ (s₁.setTop (mkF m 31 #[.val (.ref a), .val (.int mx), .val (.ref a), .val (.int (Nat.toInt32 n)), .val (.int (Nat.toInt32 i)), .val (.int (u i))] []))
        refine zq_go (fun _ k => XS.iconst X0.here hx rfl (hb hby zq_d1_31) k) ?_
        show zq_Go p e below s _ _ _ (s₁.setTop (mkF m 32 #[.val (.ref a), .val (.int mx), .val (.ref a), .val (.int (Nat.toInt32 n)), .val (.int (Nat.toInt32 i)), .val (.int (u i))] [(.int (0 : Int32))]))
        exact zq_retN X0 hx hlk (t := .boolean) hret (by simp) (hb hby zq_d1_32) ⟨by rw [← ie]; show _ = some (Value.int (if zq_in (u i) mx = 0 then _ else _)); rw [if_pos (zq_in2 hc22 hc28)]; rfl, rfl, e0⟩ (by decide) (by decide)
      refine zq_go (fun _ k => XS.icmpYes X0.here hx rfl (pc0 := 28) (pc' := 33) rfl (hb hby zq_d1_28) rfl (flt hc28).2.2.2 (by decide) (by decide) k) ?_
      show zq_Go p e below s _ _ _ (s₁.setTop (mkF m 33 #[.val (.ref a), .val (.int mx), .val (.ref a), .val (.int (Nat.toInt32 n)), .val (.int (Nat.toInt32 i)), .val (.int (u i))] []))
      refine zq_go (fun _ k => XS.iinc X0.here hx rfl (hb hby zq_d1_33) rfl (l' := #[.val (.ref a), .val (.int mx), .val (.ref a), .val (.int (Nat.toInt32 n)), .val (.int ((Nat.toInt32 i) + (1 : Int32))), .val (.int (u i))]) rfl k) ?_
      show zq_Go p e below s _ _ _ (s₁.setTop (mkF m 36 #[.val (.ref a), .val (.int mx), .val (.ref a), .val (.int (Nat.toInt32 n)), .val (.int ((Nat.toInt32 i) + (1 : Int32))), .val (.int (u i))] []))
      refine zq_go (fun _ k => XS.goto X0.here hx rfl (pc0 := 36) (pc' := 8) rfl (hb hby zq_d1_36) (by decide) (by decide) k) ?_
      show zq_Go p e below s _ _ _ (s₁.setTop (mkF m 8 #[.val (.ref a), .val (.int mx), .val (.ref a), .val (.int (Nat.toInt32 n)), .val (.int ((Nat.toInt32 i) + (1 : Int32))), .val (.int (u i))] []))
      rw [zq_inc (by omega)]
      refine ih (i + 1) _ (One.val rfl) (by omega) ?_
      rw [← ie]
      show _ = if zq_in (u i) mx = 0 then _ else _
      rw [if_neg (by rw [zq_in3 hc22 hc28]; decide)]
  exact loop n 0 _ One.u (by omega) rfl
theorem zq_pn1 : plainName "com/example/polyglyph/polyglyph/wire/PrimitiveArraysAllWithin375PinLaw" = true := by first | (simp [plainName, overriddenIn]; done) | decide +kernel
theorem zq_d2_0 : decode method_2_code 0 = .ok (.iload_n 0, 1) := by decide +kernel
theorem zq_d2_1 : decode method_2_code 1 = .ok (.i2l, 1) := by decide +kernel
theorem zq_d2_2 : decode method_2_code 2 = .ok (.lstore_n 2, 1) := by decide +kernel
theorem zq_d2_3 : decode method_2_code 3 = .ok (.iload_n 1, 1) := by decide +kernel
theorem zq_d2_4 : decode method_2_code 4 = .ok (.i2l, 1) := by decide +kernel
theorem zq_d2_5 : decode method_2_code 5 = .ok (.lstore 4, 2) := by decide +kernel
theorem zq_d2_7 : decode method_2_code 7 = .ok (.lconst 0, 1) := by decide +kernel
theorem zq_d2_8 : decode method_2_code 8 = .ok (.lload_n 2, 1) := by decide +kernel
theorem zq_d2_9 : decode method_2_code 9 = .ok (.lcmp, 1) := by decide +kernel
theorem zq_d2_10 : decode method_2_code 10 = .ok (.ifCond .gt 14, 3) := by decide +kernel
theorem zq_d2_13 : decode method_2_code 13 = .ok (.lload_n 2, 1) := by decide +kernel
theorem zq_d2_14 : decode method_2_code 14 = .ok (.lload 4, 2) := by decide +kernel
theorem zq_d2_16 : decode method_2_code 16 = .ok (.lcmp, 1) := by decide +kernel
theorem zq_d2_17 : decode method_2_code 17 = .ok (.ifCond .gt 7, 3) := by decide +kernel
theorem zq_d2_20 : decode method_2_code 20 = .ok (.iconst 1, 1) := by decide +kernel
theorem zq_d2_21 : decode method_2_code 21 = .ok (.goto 4, 3) := by decide +kernel
theorem zq_d2_24 : decode method_2_code 24 = .ok (.iconst 0, 1) := by decide +kernel
theorem zq_d2_25 : decode method_2_code 25 = .ok (.ireturn, 1) := by decide +kernel
theorem zq_ef2 (m : MethodId) (x0 : Int32) (x1 : Int32) : entryFrame m #[(.int x0), (.int x1)] 6 = mkF m 0 #[.val (.int x0), .val (.int x1), .unset, .unset, .unset, .unset] [] := by first | (simp [entryFrame, mkF, argsToLocals, Value.category]; done) | rfl
set_option maxRecDepth 65536 in
set_option maxHeartbeats 40000000 in
theorem zq_rmI (l : Launch) (Z : State) (a0 : Array Value) (hw : ∀ d ∈ tables_1, d.before a0 Z = true) (ws : List Jvm.Cond) (x : Int32) (mx : Int32) (h0 : Heap) :
    zq_Met l Z (⟨"com/example/polyglyph/polyglyph/wire/PrimitiveArraysAllWithin375PinLaw", "inRange", "(II)Z"⟩ : MethodName) method_2_code 6 (some .boolean) ws ({ frames := 0, cells := 0, slots := 0, locals := 0 } : Room) #[(.int x), (.int mx)] h0 (zq_pure (.int (zq_in x mx)) h0) := by
  refine zq_body (plainFor_of_name zq_pn1) ?_
  intro p e s m below meth c s₁ hx hZ hby hml hret hlk hown hnm X0 e0
  refine zq_go (fun _ k => castTop (zq_ef2 m x mx) k) ?_
  show zq_Go p e below s _ _ _ (s₁.setTop (mkF m 0 #[.val (.int x), .val (.int mx), .unset, .unset, .unset, .unset] []))
  refine zq_go (fun _ k => XS.iloadN X0.here hx rfl (hb hby zq_d2_0) rfl k) ?_
  show zq_Go p e below s _ _ _ (s₁.setTop (mkF m 1 #[.val (.int x), .val (.int mx), .unset, .unset, .unset, .unset] [(.int x)]))
  refine zq_go (fun _ k => XS.i2l X0.here hx rfl (hb hby zq_d2_1) rfl k) ?_
  show zq_Go p e below s _ _ _ (s₁.setTop (mkF m 2 #[.val (.int x), .val (.int mx), .unset, .unset, .unset, .unset] [(.long (x.toInt64))]))
  refine zq_go (fun _ k => XS.lstoreN X0.here hx rfl (hb hby zq_d2_2) rfl (l' := #[.val (.int x), .val (.int mx), .val (.long (x.toInt64)), .second, .unset, .unset]) rfl k) ?_
  show zq_Go p e below s _ _ _ (s₁.setTop (mkF m 3 #[.val (.int x), .val (.int mx), .val (.long (x.toInt64)), .second, .unset, .unset] []))
  refine zq_go (fun _ k => XS.iloadN X0.here hx rfl (hb hby zq_d2_3) rfl k) ?_
  show zq_Go p e below s _ _ _ (s₁.setTop (mkF m 4 #[.val (.int x), .val (.int mx), .val (.long (x.toInt64)), .second, .unset, .unset] [(.int mx)]))
  refine zq_go (fun _ k => XS.i2l X0.here hx rfl (hb hby zq_d2_4) rfl k) ?_
  show zq_Go p e below s _ _ _ (s₁.setTop (mkF m 5 #[.val (.int x), .val (.int mx), .val (.long (x.toInt64)), .second, .unset, .unset] [(.long (mx.toInt64))]))
  refine zq_go (fun _ k => XS.lstore X0.here hx rfl (hb hby zq_d2_5) rfl (l' := #[.val (.int x), .val (.int mx), .val (.long (x.toInt64)), .second, .val (.long (mx.toInt64)), .second]) rfl k) ?_
  show zq_Go p e below s _ _ _ (s₁.setTop (mkF m 7 #[.val (.int x), .val (.int mx), .val (.long (x.toInt64)), .second, .val (.long (mx.toInt64)), .second] []))
  refine zq_go (fun _ k => XS.lconst X0.here hx rfl (hb hby zq_d2_7) k) ?_
  show zq_Go p e below s _ _ _ (s₁.setTop (mkF m 8 #[.val (.int x), .val (.int mx), .val (.long (x.toInt64)), .second, .val (.long (mx.toInt64)), .second] [(.long (0 : Int64))]))
  refine zq_go (fun _ k => XS.lloadN X0.here hx rfl (hb hby zq_d2_8) rfl k) ?_
  show zq_Go p e below s _ _ _ (s₁.setTop (mkF m 9 #[.val (.int x), .val (.int mx), .val (.long (x.toInt64)), .second, .val (.long (mx.toInt64)), .second] [(.long (x.toInt64)), (.long (0 : Int64))]))
  refine zq_go (fun _ k => XS.lcmp X0.here hx rfl (hb hby zq_d2_9) rfl k) ?_
  show zq_Go p e below s _ _ _ (s₁.setTop (mkF m 10 #[.val (.int x), .val (.int mx), .val (.long (x.toInt64)), .second, .val (.long (mx.toInt64)), .second] [(.int (lcmpW (0 : Int64) (x.toInt64)))]))
  by_cases hc10 : (x.toInt64) < (0 : Int64)
  ·
    refine zq_go (fun _ k => XS.ifYes X0.here hx rfl (pc0 := 10) (pc' := 24) rfl (hb hby zq_d2_10) rfl ((if0 _ _).trans (tlt ((lw_gt _ _).mpr hc10)).2.2.1) (by decide) (by decide) k) ?_
    show zq_Go p e below s _ _ _ (s₁.setTop (mkF m 24 #[.val (.int x), .val (.int mx), .val (.long (x.toInt64)), .second, .val (.long (mx.toInt64)), .second] []))
    refine zq_go (fun _ k => XS.iconst X0.here hx rfl (hb hby zq_d2_24) k) ?_
    show zq_Go p e below s _ _ _ (s₁.setTop (mkF m 25 #[.val (.int x), .val (.int mx), .val (.long (x.toInt64)), .second, .val (.long (mx.toInt64)), .second] [(.int (0 : Int32))]))
    exact zq_retN X0 hx hlk (t := .boolean) hret (by simp) (hb hby zq_d2_25) ⟨by rw [zq_in1 ((zq_l0 _).mp hc10)]; rfl, rfl, e0⟩ (by decide) (by decide)
  refine zq_go (fun _ k => XS.ifNo X0.here hx rfl (hb hby zq_d2_10) rfl ((if0 _ _).trans (flt (fun q => hc10 ((lw_gt _ _).mp q))).2.2.1) k) ?_
  show zq_Go p e below s _ _ _ (s₁.setTop (mkF m 13 #[.val (.int x), .val (.int mx), .val (.long (x.toInt64)), .second, .val (.long (mx.toInt64)), .second] []))
  refine zq_go (fun _ k => XS.lloadN X0.here hx rfl (hb hby zq_d2_13) rfl k) ?_
  show zq_Go p e below s _ _ _ (s₁.setTop (mkF m 14 #[.val (.int x), .val (.int mx), .val (.long (x.toInt64)), .second, .val (.long (mx.toInt64)), .second] [(.long (x.toInt64))]))
  refine zq_go (fun _ k => XS.lload X0.here hx rfl (hb hby zq_d2_14) rfl k) ?_
  show zq_Go p e below s _ _ _ (s₁.setTop (mkF m 16 #[.val (.int x), .val (.int mx), .val (.long (x.toInt64)), .second, .val (.long (mx.toInt64)), .second] [(.long (mx.toInt64)), (.long (x.toInt64))]))
  refine zq_go (fun _ k => XS.lcmp X0.here hx rfl (hb hby zq_d2_16) rfl k) ?_
  show zq_Go p e below s _ _ _ (s₁.setTop (mkF m 17 #[.val (.int x), .val (.int mx), .val (.long (x.toInt64)), .second, .val (.long (mx.toInt64)), .second] [(.int (lcmpW (x.toInt64) (mx.toInt64)))]))
  by_cases hc17 : (mx.toInt64) < (x.toInt64)
  ·
    refine zq_go (fun _ k => XS.ifYes X0.here hx rfl (pc0 := 17) (pc' := 24) rfl (hb hby zq_d2_17) rfl ((if0 _ _).trans (tlt ((lw_gt _ _).mpr hc17)).2.2.1) (by decide) (by decide) k) ?_
    show zq_Go p e below s _ _ _ (s₁.setTop (mkF m 24 #[.val (.int x), .val (.int mx), .val (.long (x.toInt64)), .second, .val (.long (mx.toInt64)), .second] []))
    refine zq_go (fun _ k => XS.iconst X0.here hx rfl (hb hby zq_d2_24) k) ?_
    show zq_Go p e below s _ _ _ (s₁.setTop (mkF m 25 #[.val (.int x), .val (.int mx), .val (.long (x.toInt64)), .second, .val (.long (mx.toInt64)), .second] [(.int (0 : Int32))]))
    exact zq_retN X0 hx hlk (t := .boolean) hret (by simp) (hb hby zq_d2_25) ⟨by rw [zq_in2 (fun q => hc10 ((zq_l0 _).mpr q)) ((zq_l1 _ _).mp hc17)]; rfl, rfl, e0⟩ (by decide) (by decide)
  refine zq_go (fun _ k => XS.ifNo X0.here hx rfl (hb hby zq_d2_17) rfl ((if0 _ _).trans (flt (fun q => hc17 ((lw_gt _ _).mp q))).2.2.1) k) ?_
  show zq_Go p e below s _ _ _ (s₁.setTop (mkF m 20 #[.val (.int x), .val (.int mx), .val (.long (x.toInt64)), .second, .val (.long (mx.toInt64)), .second] []))
  refine zq_go (fun _ k => XS.iconst X0.here hx rfl (hb hby zq_d2_20) k) ?_
  show zq_Go p e below s _ _ _ (s₁.setTop (mkF m 21 #[.val (.int x), .val (.int mx), .val (.long (x.toInt64)), .second, .val (.long (mx.toInt64)), .second] [(.int (1 : Int32))]))
  refine zq_go (fun _ k => XS.goto X0.here hx rfl (pc0 := 21) (pc' := 25) rfl (hb hby zq_d2_21) (by decide) (by decide) k) ?_
  show zq_Go p e below s _ _ _ (s₁.setTop (mkF m 25 #[.val (.int x), .val (.int mx), .val (.long (x.toInt64)), .second, .val (.long (mx.toInt64)), .second] [(.int (1 : Int32))]))
  exact zq_retN X0 hx hlk (t := .boolean) hret (by simp) (hb hby zq_d2_25) ⟨by rw [zq_in3 (fun q => hc10 ((zq_l0 _).mpr q)) (fun q => hc17 ((zq_l1 _ _).mpr q))]; rfl, rfl, e0⟩ (by decide) (by decide)
theorem zq_pd2 : parseMethodDescriptor "([II)Z" = some ⟨[(.array .int), .int], some .boolean⟩ := by decide +kernel
theorem zq_pd3 : parseMethodDescriptor "(II)Z" = some ⟨[.int, .int], some .boolean⟩ := by decide +kernel
theorem zq_ef0 (m : MethodId) (x0 : Int32) (x1 : Int32) (x2 : Int32) (x3 : Int32) (x4 : Int32) : entryFrame m #[(.int x0), (.int x1), (.int x2), (.int x3), (.int x4)] maxLocals = mkF m 0 #[.val (.int x0), .val (.int x1), .val (.int x2), .val (.int x3), .val (.int x4), .unset, .unset, .unset] [] := by first | (simp [entryFrame, mkF, argsToLocals, Value.category, maxLocals]; done) | rfl
set_option maxRecDepth 65536 in
set_option maxHeartbeats 40000000 in
theorem zq_rm0 (l : Launch) (Z : State) (a0 : Array Value) (hw : ∀ d ∈ tables_1, d.before a0 Z = true) (ws : List Jvm.Cond) (x0 : Int32) (x1 : Int32) (x2 : Int32) (x3 : Int32) (x4 : Int32) (h0 : Heap) :
    zq_Met l Z x code maxLocals ret ws room_1 #[(.int x0), (.int x1), (.int x2), (.int x3), (.int x4)] h0 (zq_one h0.size) := by
  refine zq_body (plainFor_of_name zq_pn1) ?_
  intro p e s m below meth c s₁ hx hZ hby hml hret hlk hown hnm X0 e0
  refine zq_go (fun _ k => castTop (zq_ef0 m x0 x1 x2 x3 x4) k) ?_
  have NF := Fr.nil h0.size
  have ZS : h0.size ≤ h0.size := Nat.le_refl _
  show zq_Go p e below s _ _ _ (s₁.setTop (mkF m 0 #[.val (.int x0), .val (.int x1), .val (.int x2), .val (.int x3), .val (.int x4), .unset, .unset, .unset] []))
  refine zq_go (fun _ k => XS.iloadN X0.here hx rfl (hb hby at_0) rfl k) ?_
  show zq_Go p e below s _ _ _ (s₁.setTop (mkF m 1 #[.val (.int x0), .val (.int x1), .val (.int x2), .val (.int x3), .val (.int x4), .unset, .unset, .unset] [(.int x0)]))
  refine zq_go (fun _ k => XS.iconst X0.here hx rfl (hb hby at_1) k) ?_
  show zq_Go p e below s _ _ _ (s₁.setTop (mkF m 2 #[.val (.int x0), .val (.int x1), .val (.int x2), .val (.int x3), .val (.int x4), .unset, .unset, .unset] [(.int (3 : Int32)), (.int x0)]))
  refine zq_go (fun _ k => XS.iand X0.here hx rfl (hb hby at_2) rfl k) ?_
  show zq_Go p e below s _ _ _ (s₁.setTop (mkF m 3 #[.val (.int x0), .val (.int x1), .val (.int x2), .val (.int x3), .val (.int x4), .unset, .unset, .unset] [(.int (x0 &&& (3 : Int32)))]))
  change zq_Go p e below s _ _ _ (s₁.setTop (mkF m 3 #[.val (.int x0), .val (.int x1), .val (.int x2), .val (.int x3), .val (.int x4), .unset, .unset, .unset] [(.int (zq_N x0))]))
  rcases zq_ns x0 with hn | hn | hn | hn
  ·
    rw [hn]
    show zq_Go p e below s _ _ _ (s₁.setTop (mkF m 3 #[.val (.int x0), .val (.int x1), .val (.int x2), .val (.int x3), .val (.int x4), .unset, .unset, .unset] [(.int (0 : Int32))]))
    refine zq_go (fun _ k => XS.istore X0.here hx rfl (hb hby at_3) rfl (l' := #[.val (.int x0), .val (.int x1), .val (.int x2), .val (.int x3), .val (.int x4), .val (.int (0 : Int32)), .unset, .unset]) rfl k) ?_
    show zq_Go p e below s _ _ _ (s₁.setTop (mkF m 5 #[.val (.int x0), .val (.int x1), .val (.int x2), .val (.int x3), .val (.int x4), .val (.int (0 : Int32)), .unset, .unset] []))
    refine zq_go (fun _ k => XS.iload X0.here hx rfl (hb hby at_5) rfl k) ?_
    show zq_Go p e below s _ _ _ (s₁.setTop (mkF m 7 #[.val (.int x0), .val (.int x1), .val (.int x2), .val (.int x3), .val (.int x4), .val (.int (0 : Int32)), .unset, .unset] [(.int (0 : Int32))]))
    obtain ⟨T1, h1, b1, gb1, X1, e1, E1, A_b1, st1⟩ := zq_newA (aty := .int) X0 hx hZ (hw _ (List.mem_of_getElem? (i := 0) rfl)) e0 (g := (mkF m 7 #[.val (.int x0), .val (.int x1), .val (.int x2), .val (.int x3), .val (.int x4), .val (.int (0 : Int32)), .unset, .unset] [(.int (0 : Int32))])) rfl (hb hby at_7) rfl (by decide) (n := 0) (by decide) (cap := 0) (by decide) (by decide) (by decide) (by decide)
    have g_b1 : h0.size ≤ b1 := by rw [gb1]; exact ZS
    have ZS := Nat.le_trans ZS E1.1
    have X1 : Stand p l e room_1 s m #[(.int x0), (.int x1), (.int x2), (.int x3), (.int x4)] below meth c T1 [] 1 0 := X1
    have A_b1 : zq_A Z h1 b1 .int 0 (fun k => .int (([] : List Int32).getD k 0)) := A_b1.congr (fun j hj => by exact absurd hj (by omega))
    refine zq_go st1 ?_
    show zq_Go p e below s _ _ _ (T1.setTop (mkF m 9 #[.val (.int x0), .val (.int x1), .val (.int x2), .val (.int x3), .val (.int x4), .val (.int (0 : Int32)), .unset, .unset] [(.ref b1)]))
    refine zq_go (fun _ k => XS.astore X1.here hx rfl (hb hby at_9) rfl rfl (l' := #[.val (.int x0), .val (.int x1), .val (.int x2), .val (.int x3), .val (.int x4), .val (.int (0 : Int32)), .val (.ref b1), .unset]) rfl k) ?_
    show zq_Go p e below s _ _ _ (T1.setTop (mkF m 11 #[.val (.int x0), .val (.int x1), .val (.int x2), .val (.int x3), .val (.int x4), .val (.int (0 : Int32)), .val (.ref b1), .unset] []))
    refine zq_go (fun _ k => XS.iload X1.here hx rfl (hb hby at_11) rfl k) ?_
    show zq_Go p e below s _ _ _ (T1.setTop (mkF m 13 #[.val (.int x0), .val (.int x1), .val (.int x2), .val (.int x3), .val (.int x4), .val (.int (0 : Int32)), .val (.ref b1), .unset] [(.int (0 : Int32))]))
    refine zq_go (fun _ k => XS.ifYes X1.here hx rfl (pc0 := 13) (pc' := 21) rfl (hb hby at_13) rfl ((if0 _ _).trans (flt (by decide : ¬ ((0 : Int32) < (0 : Int32)))).2.2.2) (by decide) (by decide) k) ?_
    show zq_Go p e below s _ _ _ (T1.setTop (mkF m 21 #[.val (.int x0), .val (.int x1), .val (.int x2), .val (.int x3), .val (.int x4), .val (.int (0 : Int32)), .val (.ref b1), .unset] []))
    refine zq_go (fun _ k => XS.iload X1.here hx rfl (hb hby at_21) rfl k) ?_
    show zq_Go p e below s _ _ _ (T1.setTop (mkF m 23 #[.val (.int x0), .val (.int x1), .val (.int x2), .val (.int x3), .val (.int x4), .val (.int (0 : Int32)), .val (.ref b1), .unset] [(.int (0 : Int32))]))
    refine zq_go (fun _ k => XS.iconst X1.here hx rfl (hb hby at_23) k) ?_
    show zq_Go p e below s _ _ _ (T1.setTop (mkF m 24 #[.val (.int x0), .val (.int x1), .val (.int x2), .val (.int x3), .val (.int x4), .val (.int (0 : Int32)), .val (.ref b1), .unset] [(.int (1 : Int32)), (.int (0 : Int32))]))
    refine zq_go (fun _ k => XS.icmpYes X1.here hx rfl (pc0 := 24) (pc' := 32) rfl (hb hby at_24) rfl (flt (by decide : ¬ ((1 : Int32) < (0 : Int32)))).2.2.2 (by decide) (by decide) k) ?_
    show zq_Go p e below s _ _ _ (T1.setTop (mkF m 32 #[.val (.int x0), .val (.int x1), .val (.int x2), .val (.int x3), .val (.int x4), .val (.int (0 : Int32)), .val (.ref b1), .unset] []))
    refine zq_go (fun _ k => XS.iload X1.here hx rfl (hb hby at_32) rfl k) ?_
    show zq_Go p e below s _ _ _ (T1.setTop (mkF m 34 #[.val (.int x0), .val (.int x1), .val (.int x2), .val (.int x3), .val (.int x4), .val (.int (0 : Int32)), .val (.ref b1), .unset] [(.int (0 : Int32))]))
    refine zq_go (fun _ k => XS.iconst X1.here hx rfl (hb hby at_34) k) ?_
    show zq_Go p e below s _ _ _ (T1.setTop (mkF m 35 #[.val (.int x0), .val (.int x1), .val (.int x2), .val (.int x3), .val (.int x4), .val (.int (0 : Int32)), .val (.ref b1), .unset] [(.int (2 : Int32)), (.int (0 : Int32))]))
    refine zq_go (fun _ k => XS.icmpYes X1.here hx rfl (pc0 := 35) (pc' := 43) rfl (hb hby at_35) rfl (flt (by decide : ¬ ((2 : Int32) < (0 : Int32)))).2.2.2 (by decide) (by decide) k) ?_
    show zq_Go p e below s _ _ _ (T1.setTop (mkF m 43 #[.val (.int x0), .val (.int x1), .val (.int x2), .val (.int x3), .val (.int x4), .val (.int (0 : Int32)), .val (.ref b1), .unset] []))
    refine zq_go (fun _ k => XS.iload X1.here hx rfl (hb hby at_43) rfl k) ?_
    show zq_Go p e below s _ _ _ (T1.setTop (mkF m 45 #[.val (.int x0), .val (.int x1), .val (.int x2), .val (.int x3), .val (.int x4), .val (.int (0 : Int32)), .val (.ref b1), .unset] [(.int (0 : Int32))]))
    refine zq_go (fun _ k => XS.iconst X1.here hx rfl (hb hby at_45) k) ?_
    show zq_Go p e below s _ _ _ (T1.setTop (mkF m 46 #[.val (.int x0), .val (.int x1), .val (.int x2), .val (.int x3), .val (.int x4), .val (.int (0 : Int32)), .val (.ref b1), .unset] [(.int (1 : Int32)), (.int (0 : Int32))]))
    refine zq_go (fun _ k => XS.icmpYes X1.here hx rfl (pc0 := 46) (pc' := 58) rfl (hb hby at_46) rfl (tlt (by decide : (0 : Int32) < (1 : Int32))).1 (by decide) (by decide) k) ?_
    show zq_Go p e below s _ _ _ (T1.setTop (mkF m 58 #[.val (.int x0), .val (.int x1), .val (.int x2), .val (.int x3), .val (.int x4), .val (.int (0 : Int32)), .val (.ref b1), .unset] []))
    refine zq_go (fun _ k => XS.iload X1.here hx rfl (hb hby at_58) rfl k) ?_
    show zq_Go p e below s _ _ _ (T1.setTop (mkF m 60 #[.val (.int x0), .val (.int x1), .val (.int x2), .val (.int x3), .val (.int x4), .val (.int (0 : Int32)), .val (.ref b1), .unset] [(.int (0 : Int32))]))
    refine zq_go (fun _ k => XS.iconst X1.here hx rfl (hb hby at_60) k) ?_
    show zq_Go p e below s _ _ _ (T1.setTop (mkF m 61 #[.val (.int x0), .val (.int x1), .val (.int x2), .val (.int x3), .val (.int x4), .val (.int (0 : Int32)), .val (.ref b1), .unset] [(.int (2 : Int32)), (.int (0 : Int32))]))
    refine zq_go (fun _ k => XS.icmpYes X1.here hx rfl (pc0 := 61) (pc' := 73) rfl (hb hby at_61) rfl (tlt (by decide : (0 : Int32) < (2 : Int32))).1 (by decide) (by decide) k) ?_
    show zq_Go p e below s _ _ _ (T1.setTop (mkF m 73 #[.val (.int x0), .val (.int x1), .val (.int x2), .val (.int x3), .val (.int x4), .val (.int (0 : Int32)), .val (.ref b1), .unset] []))
    refine zq_go (fun _ k => XS.iload X1.here hx rfl (hb hby at_73) rfl k) ?_
    show zq_Go p e below s _ _ _ (T1.setTop (mkF m 75 #[.val (.int x0), .val (.int x1), .val (.int x2), .val (.int x3), .val (.int x4), .val (.int (0 : Int32)), .val (.ref b1), .unset] [(.int (0 : Int32))]))
    refine zq_go (fun _ k => XS.iconst X1.here hx rfl (hb hby at_75) k) ?_
    show zq_Go p e below s _ _ _ (T1.setTop (mkF m 76 #[.val (.int x0), .val (.int x1), .val (.int x2), .val (.int x3), .val (.int x4), .val (.int (0 : Int32)), .val (.ref b1), .unset] [(.int (3 : Int32)), (.int (0 : Int32))]))
    refine zq_go (fun _ k => XS.icmpYes X1.here hx rfl (pc0 := 76) (pc' := 88) rfl (hb hby at_76) rfl (tlt (by decide : (0 : Int32) < (3 : Int32))).1 (by decide) (by decide) k) ?_
    show zq_Go p e below s _ _ _ (T1.setTop (mkF m 88 #[.val (.int x0), .val (.int x1), .val (.int x2), .val (.int x3), .val (.int x4), .val (.int (0 : Int32)), .val (.ref b1), .unset] []))
    refine zq_go (fun _ k => XS.iconst X1.here hx rfl (hb hby at_88) k) ?_
    show zq_Go p e below s _ _ _ (T1.setTop (mkF m 89 #[.val (.int x0), .val (.int x1), .val (.int x2), .val (.int x3), .val (.int x4), .val (.int (0 : Int32)), .val (.ref b1), .unset] [(.int (1 : Int32))]))
    refine zq_go (fun _ k => XS.goto X1.here hx rfl (pc0 := 89) (pc' := 93) rfl (hb hby at_89) (by decide) (by decide) k) ?_
    show zq_Go p e below s _ _ _ (T1.setTop (mkF m 93 #[.val (.int x0), .val (.int x1), .val (.int x2), .val (.int x3), .val (.int x4), .val (.int (0 : Int32)), .val (.ref b1), .unset] [(.int (1 : Int32))]))
    refine zq_go (fun _ k => XS.istore X1.here hx rfl (hb hby at_93) rfl (l' := #[.val (.int x0), .val (.int x1), .val (.int x2), .val (.int x3), .val (.int x4), .val (.int (0 : Int32)), .val (.ref b1), .val (.int (1 : Int32))]) rfl k) ?_
    show zq_Go p e below s _ _ _ (T1.setTop (mkF m 95 #[.val (.int x0), .val (.int x1), .val (.int x2), .val (.int x3), .val (.int x4), .val (.int (0 : Int32)), .val (.ref b1), .val (.int (1 : Int32))] []))
    refine zq_go (fun _ k => XS.aload X1.here hx rfl (hb hby at_95) rfl rfl k) ?_
    show zq_Go p e below s _ _ _ (T1.setTop (mkF m 97 #[.val (.int x0), .val (.int x1), .val (.int x2), .val (.int x3), .val (.int x4), .val (.int (0 : Int32)), .val (.ref b1), .val (.int (1 : Int32))] [(.ref b1)]))
    refine zq_go (fun _ k => XS.iload X1.here hx rfl (hb hby at_97) rfl k) ?_
    show zq_Go p e below s _ _ _ (T1.setTop (mkF m 99 #[.val (.int x0), .val (.int x1), .val (.int x2), .val (.int x3), .val (.int x4), .val (.int (0 : Int32)), .val (.ref b1), .val (.int (1 : Int32))] [(.int x4), (.ref b1)]))
    obtain ⟨T2, X2, e2, st2⟩ := zq_callP (W := 0) X1 hx hZ hown (hw _ (List.mem_of_getElem? (i := 1) rfl)) (hw _ (List.mem_of_getElem? (i := 2) rfl)) (hw _ (List.mem_of_getElem? (i := 3) rfl)) (hw _ (List.mem_of_getElem? (i := 4) rfl)) (by decide) (zq_rmA l Z a0 hw [] b1 x4 h1 0 (fun k => ([] : List Int32).getD k 0) A_b1 (by decide)) e1 (by decide) (by decide) rfl rfl (by decide) (by decide) (g := (mkF m 99 #[.val (.int x0), .val (.int x1), .val (.int x2), .val (.int x3), .val (.int x4), .val (.int (0 : Int32)), .val (.ref b1), .val (.int (1 : Int32))] [(.int x4), (.ref b1)])) rfl (by rw [hml]; rfl) (argsL := [(.ref b1), (.int x4)]) (rest := []) (lenOf zq_pd2 rfl) rfl (by show 2 * 0 + _ ≤ _; exact Nat.le_of_eq rfl) (hb hby at_99)
    refine zq_go st2 ?_
    show zq_Go p e below s _ _ _ (T2.setTop (mkF m 102 #[.val (.int x0), .val (.int x1), .val (.int x2), .val (.int x3), .val (.int x4), .val (.int (0 : Int32)), .val (.ref b1), .val (.int (1 : Int32))] [(.int (zq_all (fun k => ([] : List Int32).getD k 0) x4 0 0))]))
    refine zq_go (fun _ k => XS.iload X2.here hx rfl (hb hby at_102) rfl k) ?_
    show zq_Go p e below s _ _ _ (T2.setTop (mkF m 104 #[.val (.int x0), .val (.int x1), .val (.int x2), .val (.int x3), .val (.int x4), .val (.int (0 : Int32)), .val (.ref b1), .val (.int (1 : Int32))] [(.int (1 : Int32)), (.int (zq_all (fun k => ([] : List Int32).getD k 0) x4 0 0))]))
    refine zq_go (fun _ k => XS.icmpNo X2.here hx rfl (hb hby at_104) rfl (teq (by show (1 : Int32) = _; rfl : (zq_all (fun k => ([] : List Int32).getD k 0) x4 0 0) = (1 : Int32))).2 k) ?_
    show zq_Go p e below s _ _ _ (T2.setTop (mkF m 107 #[.val (.int x0), .val (.int x1), .val (.int x2), .val (.int x3), .val (.int x4), .val (.int (0 : Int32)), .val (.ref b1), .val (.int (1 : Int32))] []))
    refine zq_go (fun _ k => XS.iconst X2.here hx rfl (hb hby at_107) k) ?_
    show zq_Go p e below s _ _ _ (T2.setTop (mkF m 108 #[.val (.int x0), .val (.int x1), .val (.int x2), .val (.int x3), .val (.int x4), .val (.int (0 : Int32)), .val (.ref b1), .val (.int (1 : Int32))] [(.int (1 : Int32))]))
    refine zq_go (fun _ k => XS.goto X2.here hx rfl (pc0 := 108) (pc' := 112) rfl (hb hby at_108) (by decide) (by decide) k) ?_
    show zq_Go p e below s _ _ _ (T2.setTop (mkF m 112 #[.val (.int x0), .val (.int x1), .val (.int x2), .val (.int x3), .val (.int x4), .val (.int (0 : Int32)), .val (.ref b1), .val (.int (1 : Int32))] [(.int (1 : Int32))]))
    exact zq_retN X2 hx hlk (t := .boolean) hret (by simp) (hb hby at_112) ⟨rfl, NF⟩ (by decide) (by decide)
  ·
    rw [hn]
    show zq_Go p e below s _ _ _ (s₁.setTop (mkF m 3 #[.val (.int x0), .val (.int x1), .val (.int x2), .val (.int x3), .val (.int x4), .unset, .unset, .unset] [(.int (1 : Int32))]))
    refine zq_go (fun _ k => XS.istore X0.here hx rfl (hb hby at_3) rfl (l' := #[.val (.int x0), .val (.int x1), .val (.int x2), .val (.int x3), .val (.int x4), .val (.int (1 : Int32)), .unset, .unset]) rfl k) ?_
    show zq_Go p e below s _ _ _ (s₁.setTop (mkF m 5 #[.val (.int x0), .val (.int x1), .val (.int x2), .val (.int x3), .val (.int x4), .val (.int (1 : Int32)), .unset, .unset] []))
    refine zq_go (fun _ k => XS.iload X0.here hx rfl (hb hby at_5) rfl k) ?_
    show zq_Go p e below s _ _ _ (s₁.setTop (mkF m 7 #[.val (.int x0), .val (.int x1), .val (.int x2), .val (.int x3), .val (.int x4), .val (.int (1 : Int32)), .unset, .unset] [(.int (1 : Int32))]))
    obtain ⟨T3, h3, b3, gb3, X3, e3, E3, A_b3, st3⟩ := zq_newA (aty := .int) X0 hx hZ (hw _ (List.mem_of_getElem? (i := 0) rfl)) e0 (g := (mkF m 7 #[.val (.int x0), .val (.int x1), .val (.int x2), .val (.int x3), .val (.int x4), .val (.int (1 : Int32)), .unset, .unset] [(.int (1 : Int32))])) rfl (hb hby at_7) rfl (by decide) (n := 1) (by decide) (cap := 1) (by decide) (by decide) (by decide) (by decide)
    have g_b3 : h0.size ≤ b3 := by rw [gb3]; exact ZS
    have ZS := Nat.le_trans ZS E3.1
    have X3 : Stand p l e room_1 s m #[(.int x0), (.int x1), (.int x2), (.int x3), (.int x4)] below meth c T3 [] 1 1 := X3
    have A_b3 : zq_A Z h3 b3 .int 1 (fun k => .int (([(0 : Int32)] : List Int32).getD k 0)) := A_b3.congr (fun j hj => by match j, hj with | 0, _ => rfl | (j + 1), hj => exact absurd hj (by omega))
    refine zq_go st3 ?_
    show zq_Go p e below s _ _ _ (T3.setTop (mkF m 9 #[.val (.int x0), .val (.int x1), .val (.int x2), .val (.int x3), .val (.int x4), .val (.int (1 : Int32)), .unset, .unset] [(.ref b3)]))
    refine zq_go (fun _ k => XS.astore X3.here hx rfl (hb hby at_9) rfl rfl (l' := #[.val (.int x0), .val (.int x1), .val (.int x2), .val (.int x3), .val (.int x4), .val (.int (1 : Int32)), .val (.ref b3), .unset]) rfl k) ?_
    show zq_Go p e below s _ _ _ (T3.setTop (mkF m 11 #[.val (.int x0), .val (.int x1), .val (.int x2), .val (.int x3), .val (.int x4), .val (.int (1 : Int32)), .val (.ref b3), .unset] []))
    refine zq_go (fun _ k => XS.iload X3.here hx rfl (hb hby at_11) rfl k) ?_
    show zq_Go p e below s _ _ _ (T3.setTop (mkF m 13 #[.val (.int x0), .val (.int x1), .val (.int x2), .val (.int x3), .val (.int x4), .val (.int (1 : Int32)), .val (.ref b3), .unset] [(.int (1 : Int32))]))
    refine zq_go (fun _ k => XS.ifNo X3.here hx rfl (hb hby at_13) rfl ((if0 _ _).trans (tlt (by decide : (0 : Int32) < (1 : Int32))).2.2.2) k) ?_
    show zq_Go p e below s _ _ _ (T3.setTop (mkF m 16 #[.val (.int x0), .val (.int x1), .val (.int x2), .val (.int x3), .val (.int x4), .val (.int (1 : Int32)), .val (.ref b3), .unset] []))
    refine zq_go (fun _ k => XS.aload X3.here hx rfl (hb hby at_16) rfl rfl k) ?_
    show zq_Go p e below s _ _ _ (T3.setTop (mkF m 18 #[.val (.int x0), .val (.int x1), .val (.int x2), .val (.int x3), .val (.int x4), .val (.int (1 : Int32)), .val (.ref b3), .unset] [(.ref b3)]))
    refine zq_go (fun _ k => XS.iconst X3.here hx rfl (hb hby at_18) k) ?_
    show zq_Go p e below s _ _ _ (T3.setTop (mkF m 19 #[.val (.int x0), .val (.int x1), .val (.int x2), .val (.int x3), .val (.int x4), .val (.int (1 : Int32)), .val (.ref b3), .unset] [(.int (0 : Int32)), (.ref b3)]))
    refine zq_go (fun _ k => XS.iloadN X3.here hx rfl (hb hby at_19) rfl k) ?_
    show zq_Go p e below s _ _ _ (T3.setTop (mkF m 20 #[.val (.int x0), .val (.int x1), .val (.int x2), .val (.int x3), .val (.int x4), .val (.int (1 : Int32)), .val (.ref b3), .unset] [(.int x1), (.int (0 : Int32)), (.ref b3)]))
    obtain ⟨T4, h4, X4, e4, W4, A_b3, st4⟩ := zq_stI X3 hx hZ e3 A_b3 (j := (0 : Int32)) (i := 0) (by decide) (by decide) (by decide) (g := (mkF m 20 #[.val (.int x0), .val (.int x1), .val (.int x2), .val (.int x3), .val (.int x4), .val (.int (1 : Int32)), .val (.ref b3), .unset] [(.int x1), (.int (0 : Int32)), (.ref b3)])) rfl rfl (hb hby at_20)
    refine zq_go st4 ?_
    have ZS := Nat.le_trans ZS (Keep.of_wr W4).1
    have A_b3 : zq_A Z h4 b3 .int 1 (fun k => .int (([x1] : List Int32).getD k 0)) := A_b3.congr (fun j hj => by match j, hj with | 0, _ => rfl | (j + 1), hj => exact absurd hj (by omega))
    obtain ⟨L4, X4, NF⟩ : ∃ L : List Loc, Stand p l e room_1 s m #[(.int x0), (.int x1), (.int x2), (.int x3), (.int x4)] below meth c T4 L 1 1 ∧ Fr h0.size L := ⟨_, X4, Fr.snoc X4 NF g_b3⟩
    show zq_Go p e below s _ _ _ (T4.setTop (mkF m 21 #[.val (.int x0), .val (.int x1), .val (.int x2), .val (.int x3), .val (.int x4), .val (.int (1 : Int32)), .val (.ref b3), .unset] []))
    refine zq_go (fun _ k => XS.iload X4.here hx rfl (hb hby at_21) rfl k) ?_
    show zq_Go p e below s _ _ _ (T4.setTop (mkF m 23 #[.val (.int x0), .val (.int x1), .val (.int x2), .val (.int x3), .val (.int x4), .val (.int (1 : Int32)), .val (.ref b3), .unset] [(.int (1 : Int32))]))
    refine zq_go (fun _ k => XS.iconst X4.here hx rfl (hb hby at_23) k) ?_
    show zq_Go p e below s _ _ _ (T4.setTop (mkF m 24 #[.val (.int x0), .val (.int x1), .val (.int x2), .val (.int x3), .val (.int x4), .val (.int (1 : Int32)), .val (.ref b3), .unset] [(.int (1 : Int32)), (.int (1 : Int32))]))
    refine zq_go (fun _ k => XS.icmpYes X4.here hx rfl (pc0 := 24) (pc' := 32) rfl (hb hby at_24) rfl (flt (by decide : ¬ ((1 : Int32) < (1 : Int32)))).2.2.2 (by decide) (by decide) k) ?_
    show zq_Go p e below s _ _ _ (T4.setTop (mkF m 32 #[.val (.int x0), .val (.int x1), .val (.int x2), .val (.int x3), .val (.int x4), .val (.int (1 : Int32)), .val (.ref b3), .unset] []))
    refine zq_go (fun _ k => XS.iload X4.here hx rfl (hb hby at_32) rfl k) ?_
    show zq_Go p e below s _ _ _ (T4.setTop (mkF m 34 #[.val (.int x0), .val (.int x1), .val (.int x2), .val (.int x3), .val (.int x4), .val (.int (1 : Int32)), .val (.ref b3), .unset] [(.int (1 : Int32))]))
    refine zq_go (fun _ k => XS.iconst X4.here hx rfl (hb hby at_34) k) ?_
    show zq_Go p e below s _ _ _ (T4.setTop (mkF m 35 #[.val (.int x0), .val (.int x1), .val (.int x2), .val (.int x3), .val (.int x4), .val (.int (1 : Int32)), .val (.ref b3), .unset] [(.int (2 : Int32)), (.int (1 : Int32))]))
    refine zq_go (fun _ k => XS.icmpYes X4.here hx rfl (pc0 := 35) (pc' := 43) rfl (hb hby at_35) rfl (flt (by decide : ¬ ((2 : Int32) < (1 : Int32)))).2.2.2 (by decide) (by decide) k) ?_
    show zq_Go p e below s _ _ _ (T4.setTop (mkF m 43 #[.val (.int x0), .val (.int x1), .val (.int x2), .val (.int x3), .val (.int x4), .val (.int (1 : Int32)), .val (.ref b3), .unset] []))
    refine zq_go (fun _ k => XS.iload X4.here hx rfl (hb hby at_43) rfl k) ?_
    show zq_Go p e below s _ _ _ (T4.setTop (mkF m 45 #[.val (.int x0), .val (.int x1), .val (.int x2), .val (.int x3), .val (.int x4), .val (.int (1 : Int32)), .val (.ref b3), .unset] [(.int (1 : Int32))]))
    refine zq_go (fun _ k => XS.iconst X4.here hx rfl (hb hby at_45) k) ?_
    show zq_Go p e below s _ _ _ (T4.setTop (mkF m 46 #[.val (.int x0), .val (.int x1), .val (.int x2), .val (.int x3), .val (.int x4), .val (.int (1 : Int32)), .val (.ref b3), .unset] [(.int (1 : Int32)), (.int (1 : Int32))]))
    refine zq_go (fun _ k => XS.icmpNo X4.here hx rfl (hb hby at_46) rfl (flt (by decide : ¬ ((1 : Int32) < (1 : Int32)))).1 k) ?_
    show zq_Go p e below s _ _ _ (T4.setTop (mkF m 49 #[.val (.int x0), .val (.int x1), .val (.int x2), .val (.int x3), .val (.int x4), .val (.int (1 : Int32)), .val (.ref b3), .unset] []))
    refine zq_go (fun _ k => XS.iloadN X4.here hx rfl (hb hby at_49) rfl k) ?_
    show zq_Go p e below s _ _ _ (T4.setTop (mkF m 50 #[.val (.int x0), .val (.int x1), .val (.int x2), .val (.int x3), .val (.int x4), .val (.int (1 : Int32)), .val (.ref b3), .unset] [(.int x1)]))
    refine zq_go (fun _ k => XS.iload X4.here hx rfl (hb hby at_50) rfl k) ?_
    show zq_Go p e below s _ _ _ (T4.setTop (mkF m 52 #[.val (.int x0), .val (.int x1), .val (.int x2), .val (.int x3), .val (.int x4), .val (.int (1 : Int32)), .val (.ref b3), .unset] [(.int x4), (.int x1)]))
    obtain ⟨T5, X5, e5, st5⟩ := zq_callP (W := 0) X4 hx hZ hown (hw _ (List.mem_of_getElem? (i := 5) rfl)) (hw _ (List.mem_of_getElem? (i := 6) rfl)) (hw _ (List.mem_of_getElem? (i := 7) rfl)) (hw _ (List.mem_of_getElem? (i := 8) rfl)) (by decide) (zq_rmI l Z a0 hw [] x1 x4 h4) e4 (by decide) (by decide) rfl rfl (by decide) (by decide) (g := (mkF m 52 #[.val (.int x0), .val (.int x1), .val (.int x2), .val (.int x3), .val (.int x4), .val (.int (1 : Int32)), .val (.ref b3), .unset] [(.int x4), (.int x1)])) rfl (by rw [hml]; rfl) (argsL := [(.int x1), (.int x4)]) (rest := []) (lenOf zq_pd3 rfl) rfl (by show 2 * 0 + _ ≤ _; exact Nat.le_of_eq rfl) (hb hby at_52)
    refine zq_go st5 ?_
    show zq_Go p e below s _ _ _ (T5.setTop (mkF m 55 #[.val (.int x0), .val (.int x1), .val (.int x2), .val (.int x3), .val (.int x4), .val (.int (1 : Int32)), .val (.ref b3), .unset] [(.int (zq_in x1 x4))]))
    by_cases hc55 : (zq_in x1 x4) = (0 : Int32)
    ·
      refine zq_go (fun _ k => XS.ifYes X5.here hx rfl (pc0 := 55) (pc' := 92) rfl (hb hby at_55) rfl ((if0 _ _).trans (teq hc55).1) (by decide) (by decide) k) ?_
      show zq_Go p e below s _ _ _ (T5.setTop (mkF m 92 #[.val (.int x0), .val (.int x1), .val (.int x2), .val (.int x3), .val (.int x4), .val (.int (1 : Int32)), .val (.ref b3), .unset] []))
      refine zq_go (fun _ k => XS.iconst X5.here hx rfl (hb hby at_92) k) ?_
      show zq_Go p e below s _ _ _ (T5.setTop (mkF m 93 #[.val (.int x0), .val (.int x1), .val (.int x2), .val (.int x3), .val (.int x4), .val (.int (1 : Int32)), .val (.ref b3), .unset] [(.int (0 : Int32))]))
      refine zq_go (fun _ k => XS.istore X5.here hx rfl (hb hby at_93) rfl (l' := #[.val (.int x0), .val (.int x1), .val (.int x2), .val (.int x3), .val (.int x4), .val (.int (1 : Int32)), .val (.ref b3), .val (.int (0 : Int32))]) rfl k) ?_
      show zq_Go p e below s _ _ _ (T5.setTop (mkF m 95 #[.val (.int x0), .val (.int x1), .val (.int x2), .val (.int x3), .val (.int x4), .val (.int (1 : Int32)), .val (.ref b3), .val (.int (0 : Int32))] []))
      refine zq_go (fun _ k => XS.aload X5.here hx rfl (hb hby at_95) rfl rfl k) ?_
      show zq_Go p e below s _ _ _ (T5.setTop (mkF m 97 #[.val (.int x0), .val (.int x1), .val (.int x2), .val (.int x3), .val (.int x4), .val (.int (1 : Int32)), .val (.ref b3), .val (.int (0 : Int32))] [(.ref b3)]))
      refine zq_go (fun _ k => XS.iload X5.here hx rfl (hb hby at_97) rfl k) ?_
      show zq_Go p e below s _ _ _ (T5.setTop (mkF m 99 #[.val (.int x0), .val (.int x1), .val (.int x2), .val (.int x3), .val (.int x4), .val (.int (1 : Int32)), .val (.ref b3), .val (.int (0 : Int32))] [(.int x4), (.ref b3)]))
      obtain ⟨T6, X6, e6, st6⟩ := zq_callP (W := 0) X5 hx hZ hown (hw _ (List.mem_of_getElem? (i := 1) rfl)) (hw _ (List.mem_of_getElem? (i := 2) rfl)) (hw _ (List.mem_of_getElem? (i := 3) rfl)) (hw _ (List.mem_of_getElem? (i := 4) rfl)) (by decide) (zq_rmA l Z a0 hw [] b3 x4 h4 1 (fun k => ([x1] : List Int32).getD k 0) A_b3 (by decide)) e5 (by decide) (by decide) rfl rfl (by decide) (by decide) (g := (mkF m 99 #[.val (.int x0), .val (.int x1), .val (.int x2), .val (.int x3), .val (.int x4), .val (.int (1 : Int32)), .val (.ref b3), .val (.int (0 : Int32))] [(.int x4), (.ref b3)])) rfl (by rw [hml]; rfl) (argsL := [(.ref b3), (.int x4)]) (rest := []) (lenOf zq_pd2 rfl) rfl (by show 2 * 0 + _ ≤ _; exact Nat.le_of_eq rfl) (hb hby at_99)
      refine zq_go st6 ?_
      show zq_Go p e below s _ _ _ (T6.setTop (mkF m 102 #[.val (.int x0), .val (.int x1), .val (.int x2), .val (.int x3), .val (.int x4), .val (.int (1 : Int32)), .val (.ref b3), .val (.int (0 : Int32))] [(.int (zq_all (fun k => ([x1] : List Int32).getD k 0) x4 1 0))]))
      refine zq_go (fun _ k => XS.iload X6.here hx rfl (hb hby at_102) rfl k) ?_
      show zq_Go p e below s _ _ _ (T6.setTop (mkF m 104 #[.val (.int x0), .val (.int x1), .val (.int x2), .val (.int x3), .val (.int x4), .val (.int (1 : Int32)), .val (.ref b3), .val (.int (0 : Int32))] [(.int (0 : Int32)), (.int (zq_all (fun k => ([x1] : List Int32).getD k 0) x4 1 0))]))
      refine zq_go (fun _ k => XS.icmpNo X6.here hx rfl (hb hby at_104) rfl (teq (by show (if zq_in x1 x4 = 0 then (0 : Int32) else (1 : Int32)) = _; rw [if_pos hc55] : (zq_all (fun k => ([x1] : List Int32).getD k 0) x4 1 0) = (0 : Int32))).2 k) ?_
      show zq_Go p e below s _ _ _ (T6.setTop (mkF m 107 #[.val (.int x0), .val (.int x1), .val (.int x2), .val (.int x3), .val (.int x4), .val (.int (1 : Int32)), .val (.ref b3), .val (.int (0 : Int32))] []))
      refine zq_go (fun _ k => XS.iconst X6.here hx rfl (hb hby at_107) k) ?_
      show zq_Go p e below s _ _ _ (T6.setTop (mkF m 108 #[.val (.int x0), .val (.int x1), .val (.int x2), .val (.int x3), .val (.int x4), .val (.int (1 : Int32)), .val (.ref b3), .val (.int (0 : Int32))] [(.int (1 : Int32))]))
      refine zq_go (fun _ k => XS.goto X6.here hx rfl (pc0 := 108) (pc' := 112) rfl (hb hby at_108) (by decide) (by decide) k) ?_
      show zq_Go p e below s _ _ _ (T6.setTop (mkF m 112 #[.val (.int x0), .val (.int x1), .val (.int x2), .val (.int x3), .val (.int x4), .val (.int (1 : Int32)), .val (.ref b3), .val (.int (0 : Int32))] [(.int (1 : Int32))]))
      exact zq_retN X6 hx hlk (t := .boolean) hret (by simp) (hb hby at_112) ⟨rfl, NF⟩ (by decide) (by decide)
    refine zq_go (fun _ k => XS.ifNo X5.here hx rfl (hb hby at_55) rfl ((if0 _ _).trans (feq hc55).1) k) ?_
    show zq_Go p e below s _ _ _ (T5.setTop (mkF m 58 #[.val (.int x0), .val (.int x1), .val (.int x2), .val (.int x3), .val (.int x4), .val (.int (1 : Int32)), .val (.ref b3), .unset] []))
    refine zq_go (fun _ k => XS.iload X5.here hx rfl (hb hby at_58) rfl k) ?_
    show zq_Go p e below s _ _ _ (T5.setTop (mkF m 60 #[.val (.int x0), .val (.int x1), .val (.int x2), .val (.int x3), .val (.int x4), .val (.int (1 : Int32)), .val (.ref b3), .unset] [(.int (1 : Int32))]))
    refine zq_go (fun _ k => XS.iconst X5.here hx rfl (hb hby at_60) k) ?_
    show zq_Go p e below s _ _ _ (T5.setTop (mkF m 61 #[.val (.int x0), .val (.int x1), .val (.int x2), .val (.int x3), .val (.int x4), .val (.int (1 : Int32)), .val (.ref b3), .unset] [(.int (2 : Int32)), (.int (1 : Int32))]))
    refine zq_go (fun _ k => XS.icmpYes X5.here hx rfl (pc0 := 61) (pc' := 73) rfl (hb hby at_61) rfl (tlt (by decide : (1 : Int32) < (2 : Int32))).1 (by decide) (by decide) k) ?_
    show zq_Go p e below s _ _ _ (T5.setTop (mkF m 73 #[.val (.int x0), .val (.int x1), .val (.int x2), .val (.int x3), .val (.int x4), .val (.int (1 : Int32)), .val (.ref b3), .unset] []))
    refine zq_go (fun _ k => XS.iload X5.here hx rfl (hb hby at_73) rfl k) ?_
    show zq_Go p e below s _ _ _ (T5.setTop (mkF m 75 #[.val (.int x0), .val (.int x1), .val (.int x2), .val (.int x3), .val (.int x4), .val (.int (1 : Int32)), .val (.ref b3), .unset] [(.int (1 : Int32))]))
    refine zq_go (fun _ k => XS.iconst X5.here hx rfl (hb hby at_75) k) ?_
    show zq_Go p e below s _ _ _ (T5.setTop (mkF m 76 #[.val (.int x0), .val (.int x1), .val (.int x2), .val (.int x3), .val (.int x4), .val (.int (1 : Int32)), .val (.ref b3), .unset] [(.int (3 : Int32)), (.int (1 : Int32))]))
    refine zq_go (fun _ k => XS.icmpYes X5.here hx rfl (pc0 := 76) (pc' := 88) rfl (hb hby at_76) rfl (tlt (by decide : (1 : Int32) < (3 : Int32))).1 (by decide) (by decide) k) ?_
    show zq_Go p e below s _ _ _ (T5.setTop (mkF m 88 #[.val (.int x0), .val (.int x1), .val (.int x2), .val (.int x3), .val (.int x4), .val (.int (1 : Int32)), .val (.ref b3), .unset] []))
    refine zq_go (fun _ k => XS.iconst X5.here hx rfl (hb hby at_88) k) ?_
    show zq_Go p e below s _ _ _ (T5.setTop (mkF m 89 #[.val (.int x0), .val (.int x1), .val (.int x2), .val (.int x3), .val (.int x4), .val (.int (1 : Int32)), .val (.ref b3), .unset] [(.int (1 : Int32))]))
    refine zq_go (fun _ k => XS.goto X5.here hx rfl (pc0 := 89) (pc' := 93) rfl (hb hby at_89) (by decide) (by decide) k) ?_
    show zq_Go p e below s _ _ _ (T5.setTop (mkF m 93 #[.val (.int x0), .val (.int x1), .val (.int x2), .val (.int x3), .val (.int x4), .val (.int (1 : Int32)), .val (.ref b3), .unset] [(.int (1 : Int32))]))
    refine zq_go (fun _ k => XS.istore X5.here hx rfl (hb hby at_93) rfl (l' := #[.val (.int x0), .val (.int x1), .val (.int x2), .val (.int x3), .val (.int x4), .val (.int (1 : Int32)), .val (.ref b3), .val (.int (1 : Int32))]) rfl k) ?_
    show zq_Go p e below s _ _ _ (T5.setTop (mkF m 95 #[.val (.int x0), .val (.int x1), .val (.int x2), .val (.int x3), .val (.int x4), .val (.int (1 : Int32)), .val (.ref b3), .val (.int (1 : Int32))] []))
    refine zq_go (fun _ k => XS.aload X5.here hx rfl (hb hby at_95) rfl rfl k) ?_
    show zq_Go p e below s _ _ _ (T5.setTop (mkF m 97 #[.val (.int x0), .val (.int x1), .val (.int x2), .val (.int x3), .val (.int x4), .val (.int (1 : Int32)), .val (.ref b3), .val (.int (1 : Int32))] [(.ref b3)]))
    refine zq_go (fun _ k => XS.iload X5.here hx rfl (hb hby at_97) rfl k) ?_
    show zq_Go p e below s _ _ _ (T5.setTop (mkF m 99 #[.val (.int x0), .val (.int x1), .val (.int x2), .val (.int x3), .val (.int x4), .val (.int (1 : Int32)), .val (.ref b3), .val (.int (1 : Int32))] [(.int x4), (.ref b3)]))
    obtain ⟨T7, X7, e7, st7⟩ := zq_callP (W := 0) X5 hx hZ hown (hw _ (List.mem_of_getElem? (i := 1) rfl)) (hw _ (List.mem_of_getElem? (i := 2) rfl)) (hw _ (List.mem_of_getElem? (i := 3) rfl)) (hw _ (List.mem_of_getElem? (i := 4) rfl)) (by decide) (zq_rmA l Z a0 hw [] b3 x4 h4 1 (fun k => ([x1] : List Int32).getD k 0) A_b3 (by decide)) e5 (by decide) (by decide) rfl rfl (by decide) (by decide) (g := (mkF m 99 #[.val (.int x0), .val (.int x1), .val (.int x2), .val (.int x3), .val (.int x4), .val (.int (1 : Int32)), .val (.ref b3), .val (.int (1 : Int32))] [(.int x4), (.ref b3)])) rfl (by rw [hml]; rfl) (argsL := [(.ref b3), (.int x4)]) (rest := []) (lenOf zq_pd2 rfl) rfl (by show 2 * 0 + _ ≤ _; exact Nat.le_of_eq rfl) (hb hby at_99)
    refine zq_go st7 ?_
    show zq_Go p e below s _ _ _ (T7.setTop (mkF m 102 #[.val (.int x0), .val (.int x1), .val (.int x2), .val (.int x3), .val (.int x4), .val (.int (1 : Int32)), .val (.ref b3), .val (.int (1 : Int32))] [(.int (zq_all (fun k => ([x1] : List Int32).getD k 0) x4 1 0))]))
    refine zq_go (fun _ k => XS.iload X7.here hx rfl (hb hby at_102) rfl k) ?_
    show zq_Go p e below s _ _ _ (T7.setTop (mkF m 104 #[.val (.int x0), .val (.int x1), .val (.int x2), .val (.int x3), .val (.int x4), .val (.int (1 : Int32)), .val (.ref b3), .val (.int (1 : Int32))] [(.int (1 : Int32)), (.int (zq_all (fun k => ([x1] : List Int32).getD k 0) x4 1 0))]))
    refine zq_go (fun _ k => XS.icmpNo X7.here hx rfl (hb hby at_104) rfl (teq (by show (if zq_in x1 x4 = 0 then (0 : Int32) else (1 : Int32)) = _; rw [if_neg hc55] : (zq_all (fun k => ([x1] : List Int32).getD k 0) x4 1 0) = (1 : Int32))).2 k) ?_
    show zq_Go p e below s _ _ _ (T7.setTop (mkF m 107 #[.val (.int x0), .val (.int x1), .val (.int x2), .val (.int x3), .val (.int x4), .val (.int (1 : Int32)), .val (.ref b3), .val (.int (1 : Int32))] []))
    refine zq_go (fun _ k => XS.iconst X7.here hx rfl (hb hby at_107) k) ?_
    show zq_Go p e below s _ _ _ (T7.setTop (mkF m 108 #[.val (.int x0), .val (.int x1), .val (.int x2), .val (.int x3), .val (.int x4), .val (.int (1 : Int32)), .val (.ref b3), .val (.int (1 : Int32))] [(.int (1 : Int32))]))
    refine zq_go (fun _ k => XS.goto X7.here hx rfl (pc0 := 108) (pc' := 112) rfl (hb hby at_108) (by decide) (by decide) k) ?_
    show zq_Go p e below s _ _ _ (T7.setTop (mkF m 112 #[.val (.int x0), .val (.int x1), .val (.int x2), .val (.int x3), .val (.int x4), .val (.int (1 : Int32)), .val (.ref b3), .val (.int (1 : Int32))] [(.int (1 : Int32))]))
    exact zq_retN X7 hx hlk (t := .boolean) hret (by simp) (hb hby at_112) ⟨rfl, NF⟩ (by decide) (by decide)
  ·
    rw [hn]
    show zq_Go p e below s _ _ _ (s₁.setTop (mkF m 3 #[.val (.int x0), .val (.int x1), .val (.int x2), .val (.int x3), .val (.int x4), .unset, .unset, .unset] [(.int (2 : Int32))]))
    refine zq_go (fun _ k => XS.istore X0.here hx rfl (hb hby at_3) rfl (l' := #[.val (.int x0), .val (.int x1), .val (.int x2), .val (.int x3), .val (.int x4), .val (.int (2 : Int32)), .unset, .unset]) rfl k) ?_
    show zq_Go p e below s _ _ _ (s₁.setTop (mkF m 5 #[.val (.int x0), .val (.int x1), .val (.int x2), .val (.int x3), .val (.int x4), .val (.int (2 : Int32)), .unset, .unset] []))
    refine zq_go (fun _ k => XS.iload X0.here hx rfl (hb hby at_5) rfl k) ?_
    show zq_Go p e below s _ _ _ (s₁.setTop (mkF m 7 #[.val (.int x0), .val (.int x1), .val (.int x2), .val (.int x3), .val (.int x4), .val (.int (2 : Int32)), .unset, .unset] [(.int (2 : Int32))]))
    obtain ⟨T8, h8, b8, gb8, X8, e8, E8, A_b8, st8⟩ := zq_newA (aty := .int) X0 hx hZ (hw _ (List.mem_of_getElem? (i := 0) rfl)) e0 (g := (mkF m 7 #[.val (.int x0), .val (.int x1), .val (.int x2), .val (.int x3), .val (.int x4), .val (.int (2 : Int32)), .unset, .unset] [(.int (2 : Int32))])) rfl (hb hby at_7) rfl (by decide) (n := 2) (by decide) (cap := 2) (by decide) (by decide) (by decide) (by decide)
    have g_b8 : h0.size ≤ b8 := by rw [gb8]; exact ZS
    have ZS := Nat.le_trans ZS E8.1
    have X8 : Stand p l e room_1 s m #[(.int x0), (.int x1), (.int x2), (.int x3), (.int x4)] below meth c T8 [] 1 2 := X8
    have A_b8 : zq_A Z h8 b8 .int 2 (fun k => .int (([(0 : Int32), (0 : Int32)] : List Int32).getD k 0)) := A_b8.congr (fun j hj => by match j, hj with | 0, _ => rfl | 1, _ => rfl | (j + 2), hj => exact absurd hj (by omega))
    refine zq_go st8 ?_
    show zq_Go p e below s _ _ _ (T8.setTop (mkF m 9 #[.val (.int x0), .val (.int x1), .val (.int x2), .val (.int x3), .val (.int x4), .val (.int (2 : Int32)), .unset, .unset] [(.ref b8)]))
    refine zq_go (fun _ k => XS.astore X8.here hx rfl (hb hby at_9) rfl rfl (l' := #[.val (.int x0), .val (.int x1), .val (.int x2), .val (.int x3), .val (.int x4), .val (.int (2 : Int32)), .val (.ref b8), .unset]) rfl k) ?_
    show zq_Go p e below s _ _ _ (T8.setTop (mkF m 11 #[.val (.int x0), .val (.int x1), .val (.int x2), .val (.int x3), .val (.int x4), .val (.int (2 : Int32)), .val (.ref b8), .unset] []))
    refine zq_go (fun _ k => XS.iload X8.here hx rfl (hb hby at_11) rfl k) ?_
    show zq_Go p e below s _ _ _ (T8.setTop (mkF m 13 #[.val (.int x0), .val (.int x1), .val (.int x2), .val (.int x3), .val (.int x4), .val (.int (2 : Int32)), .val (.ref b8), .unset] [(.int (2 : Int32))]))
    refine zq_go (fun _ k => XS.ifNo X8.here hx rfl (hb hby at_13) rfl ((if0 _ _).trans (tlt (by decide : (0 : Int32) < (2 : Int32))).2.2.2) k) ?_
    show zq_Go p e below s _ _ _ (T8.setTop (mkF m 16 #[.val (.int x0), .val (.int x1), .val (.int x2), .val (.int x3), .val (.int x4), .val (.int (2 : Int32)), .val (.ref b8), .unset] []))
    refine zq_go (fun _ k => XS.aload X8.here hx rfl (hb hby at_16) rfl rfl k) ?_
    show zq_Go p e below s _ _ _ (T8.setTop (mkF m 18 #[.val (.int x0), .val (.int x1), .val (.int x2), .val (.int x3), .val (.int x4), .val (.int (2 : Int32)), .val (.ref b8), .unset] [(.ref b8)]))
    refine zq_go (fun _ k => XS.iconst X8.here hx rfl (hb hby at_18) k) ?_
    show zq_Go p e below s _ _ _ (T8.setTop (mkF m 19 #[.val (.int x0), .val (.int x1), .val (.int x2), .val (.int x3), .val (.int x4), .val (.int (2 : Int32)), .val (.ref b8), .unset] [(.int (0 : Int32)), (.ref b8)]))
    refine zq_go (fun _ k => XS.iloadN X8.here hx rfl (hb hby at_19) rfl k) ?_
    show zq_Go p e below s _ _ _ (T8.setTop (mkF m 20 #[.val (.int x0), .val (.int x1), .val (.int x2), .val (.int x3), .val (.int x4), .val (.int (2 : Int32)), .val (.ref b8), .unset] [(.int x1), (.int (0 : Int32)), (.ref b8)]))
    obtain ⟨T9, h9, X9, e9, W9, A_b8, st9⟩ := zq_stI X8 hx hZ e8 A_b8 (j := (0 : Int32)) (i := 0) (by decide) (by decide) (by decide) (g := (mkF m 20 #[.val (.int x0), .val (.int x1), .val (.int x2), .val (.int x3), .val (.int x4), .val (.int (2 : Int32)), .val (.ref b8), .unset] [(.int x1), (.int (0 : Int32)), (.ref b8)])) rfl rfl (hb hby at_20)
    refine zq_go st9 ?_
    have ZS := Nat.le_trans ZS (Keep.of_wr W9).1
    have A_b8 : zq_A Z h9 b8 .int 2 (fun k => .int (([x1, (0 : Int32)] : List Int32).getD k 0)) := A_b8.congr (fun j hj => by match j, hj with | 0, _ => rfl | 1, _ => rfl | (j + 2), hj => exact absurd hj (by omega))
    obtain ⟨L9, X9, NF⟩ : ∃ L : List Loc, Stand p l e room_1 s m #[(.int x0), (.int x1), (.int x2), (.int x3), (.int x4)] below meth c T9 L 1 2 ∧ Fr h0.size L := ⟨_, X9, Fr.snoc X9 NF g_b8⟩
    show zq_Go p e below s _ _ _ (T9.setTop (mkF m 21 #[.val (.int x0), .val (.int x1), .val (.int x2), .val (.int x3), .val (.int x4), .val (.int (2 : Int32)), .val (.ref b8), .unset] []))
    refine zq_go (fun _ k => XS.iload X9.here hx rfl (hb hby at_21) rfl k) ?_
    show zq_Go p e below s _ _ _ (T9.setTop (mkF m 23 #[.val (.int x0), .val (.int x1), .val (.int x2), .val (.int x3), .val (.int x4), .val (.int (2 : Int32)), .val (.ref b8), .unset] [(.int (2 : Int32))]))
    refine zq_go (fun _ k => XS.iconst X9.here hx rfl (hb hby at_23) k) ?_
    show zq_Go p e below s _ _ _ (T9.setTop (mkF m 24 #[.val (.int x0), .val (.int x1), .val (.int x2), .val (.int x3), .val (.int x4), .val (.int (2 : Int32)), .val (.ref b8), .unset] [(.int (1 : Int32)), (.int (2 : Int32))]))
    refine zq_go (fun _ k => XS.icmpNo X9.here hx rfl (hb hby at_24) rfl (tlt (by decide : (1 : Int32) < (2 : Int32))).2.2.2 k) ?_
    show zq_Go p e below s _ _ _ (T9.setTop (mkF m 27 #[.val (.int x0), .val (.int x1), .val (.int x2), .val (.int x3), .val (.int x4), .val (.int (2 : Int32)), .val (.ref b8), .unset] []))
    refine zq_go (fun _ k => XS.aload X9.here hx rfl (hb hby at_27) rfl rfl k) ?_
    show zq_Go p e below s _ _ _ (T9.setTop (mkF m 29 #[.val (.int x0), .val (.int x1), .val (.int x2), .val (.int x3), .val (.int x4), .val (.int (2 : Int32)), .val (.ref b8), .unset] [(.ref b8)]))
    refine zq_go (fun _ k => XS.iconst X9.here hx rfl (hb hby at_29) k) ?_
    show zq_Go p e below s _ _ _ (T9.setTop (mkF m 30 #[.val (.int x0), .val (.int x1), .val (.int x2), .val (.int x3), .val (.int x4), .val (.int (2 : Int32)), .val (.ref b8), .unset] [(.int (1 : Int32)), (.ref b8)]))
    refine zq_go (fun _ k => XS.iloadN X9.here hx rfl (hb hby at_30) rfl k) ?_
    show zq_Go p e below s _ _ _ (T9.setTop (mkF m 31 #[.val (.int x0), .val (.int x1), .val (.int x2), .val (.int x3), .val (.int x4), .val (.int (2 : Int32)), .val (.ref b8), .unset] [(.int x2), (.int (1 : Int32)), (.ref b8)]))
    obtain ⟨T10, h10, X10, e10, W10, A_b8, st10⟩ := zq_stI X9 hx hZ e9 A_b8 (j := (1 : Int32)) (i := 1) (by decide) (by decide) (by decide) (g := (mkF m 31 #[.val (.int x0), .val (.int x1), .val (.int x2), .val (.int x3), .val (.int x4), .val (.int (2 : Int32)), .val (.ref b8), .unset] [(.int x2), (.int (1 : Int32)), (.ref b8)])) rfl rfl (hb hby at_31)
    refine zq_go st10 ?_
    have ZS := Nat.le_trans ZS (Keep.of_wr W10).1
    have A_b8 : zq_A Z h10 b8 .int 2 (fun k => .int (([x1, x2] : List Int32).getD k 0)) := A_b8.congr (fun j hj => by match j, hj with | 0, _ => rfl | 1, _ => rfl | (j + 2), hj => exact absurd hj (by omega))
    obtain ⟨L10, X10, NF⟩ : ∃ L : List Loc, Stand p l e room_1 s m #[(.int x0), (.int x1), (.int x2), (.int x3), (.int x4)] below meth c T10 L 1 2 ∧ Fr h0.size L := ⟨_, X10, Fr.snoc X10 NF g_b8⟩
    show zq_Go p e below s _ _ _ (T10.setTop (mkF m 32 #[.val (.int x0), .val (.int x1), .val (.int x2), .val (.int x3), .val (.int x4), .val (.int (2 : Int32)), .val (.ref b8), .unset] []))
    refine zq_go (fun _ k => XS.iload X10.here hx rfl (hb hby at_32) rfl k) ?_
    show zq_Go p e below s _ _ _ (T10.setTop (mkF m 34 #[.val (.int x0), .val (.int x1), .val (.int x2), .val (.int x3), .val (.int x4), .val (.int (2 : Int32)), .val (.ref b8), .unset] [(.int (2 : Int32))]))
    refine zq_go (fun _ k => XS.iconst X10.here hx rfl (hb hby at_34) k) ?_
    show zq_Go p e below s _ _ _ (T10.setTop (mkF m 35 #[.val (.int x0), .val (.int x1), .val (.int x2), .val (.int x3), .val (.int x4), .val (.int (2 : Int32)), .val (.ref b8), .unset] [(.int (2 : Int32)), (.int (2 : Int32))]))
    refine zq_go (fun _ k => XS.icmpYes X10.here hx rfl (pc0 := 35) (pc' := 43) rfl (hb hby at_35) rfl (flt (by decide : ¬ ((2 : Int32) < (2 : Int32)))).2.2.2 (by decide) (by decide) k) ?_
    show zq_Go p e below s _ _ _ (T10.setTop (mkF m 43 #[.val (.int x0), .val (.int x1), .val (.int x2), .val (.int x3), .val (.int x4), .val (.int (2 : Int32)), .val (.ref b8), .unset] []))
    refine zq_go (fun _ k => XS.iload X10.here hx rfl (hb hby at_43) rfl k) ?_
    show zq_Go p e below s _ _ _ (T10.setTop (mkF m 45 #[.val (.int x0), .val (.int x1), .val (.int x2), .val (.int x3), .val (.int x4), .val (.int (2 : Int32)), .val (.ref b8), .unset] [(.int (2 : Int32))]))
    refine zq_go (fun _ k => XS.iconst X10.here hx rfl (hb hby at_45) k) ?_
    show zq_Go p e below s _ _ _ (T10.setTop (mkF m 46 #[.val (.int x0), .val (.int x1), .val (.int x2), .val (.int x3), .val (.int x4), .val (.int (2 : Int32)), .val (.ref b8), .unset] [(.int (1 : Int32)), (.int (2 : Int32))]))
    refine zq_go (fun _ k => XS.icmpNo X10.here hx rfl (hb hby at_46) rfl (flt (by decide : ¬ ((2 : Int32) < (1 : Int32)))).1 k) ?_
    show zq_Go p e below s _ _ _ (T10.setTop (mkF m 49 #[.val (.int x0), .val (.int x1), .val (.int x2), .val (.int x3), .val (.int x4), .val (.int (2 : Int32)), .val (.ref b8), .unset] []))
    refine zq_go (fun _ k => XS.iloadN X10.here hx rfl (hb hby at_49) rfl k) ?_
    show zq_Go p e below s _ _ _ (T10.setTop (mkF m 50 #[.val (.int x0), .val (.int x1), .val (.int x2), .val (.int x3), .val (.int x4), .val (.int (2 : Int32)), .val (.ref b8), .unset] [(.int x1)]))
    refine zq_go (fun _ k => XS.iload X10.here hx rfl (hb hby at_50) rfl k) ?_
    show zq_Go p e below s _ _ _ (T10.setTop (mkF m 52 #[.val (.int x0), .val (.int x1), .val (.int x2), .val (.int x3), .val (.int x4), .val (.int (2 : Int32)), .val (.ref b8), .unset] [(.int x4), (.int x1)]))
    obtain ⟨T11, X11, e11, st11⟩ := zq_callP (W := 0) X10 hx hZ hown (hw _ (List.mem_of_getElem? (i := 5) rfl)) (hw _ (List.mem_of_getElem? (i := 6) rfl)) (hw _ (List.mem_of_getElem? (i := 7) rfl)) (hw _ (List.mem_of_getElem? (i := 8) rfl)) (by decide) (zq_rmI l Z a0 hw [] x1 x4 h10) e10 (by decide) (by decide) rfl rfl (by decide) (by decide) (g := (mkF m 52 #[.val (.int x0), .val (.int x1), .val (.int x2), .val (.int x3), .val (.int x4), .val (.int (2 : Int32)), .val (.ref b8), .unset] [(.int x4), (.int x1)])) rfl (by rw [hml]; rfl) (argsL := [(.int x1), (.int x4)]) (rest := []) (lenOf zq_pd3 rfl) rfl (by show 2 * 0 + _ ≤ _; exact Nat.le_of_eq rfl) (hb hby at_52)
    refine zq_go st11 ?_
    show zq_Go p e below s _ _ _ (T11.setTop (mkF m 55 #[.val (.int x0), .val (.int x1), .val (.int x2), .val (.int x3), .val (.int x4), .val (.int (2 : Int32)), .val (.ref b8), .unset] [(.int (zq_in x1 x4))]))
    by_cases hc55 : (zq_in x1 x4) = (0 : Int32)
    ·
      refine zq_go (fun _ k => XS.ifYes X11.here hx rfl (pc0 := 55) (pc' := 92) rfl (hb hby at_55) rfl ((if0 _ _).trans (teq hc55).1) (by decide) (by decide) k) ?_
      show zq_Go p e below s _ _ _ (T11.setTop (mkF m 92 #[.val (.int x0), .val (.int x1), .val (.int x2), .val (.int x3), .val (.int x4), .val (.int (2 : Int32)), .val (.ref b8), .unset] []))
      refine zq_go (fun _ k => XS.iconst X11.here hx rfl (hb hby at_92) k) ?_
      show zq_Go p e below s _ _ _ (T11.setTop (mkF m 93 #[.val (.int x0), .val (.int x1), .val (.int x2), .val (.int x3), .val (.int x4), .val (.int (2 : Int32)), .val (.ref b8), .unset] [(.int (0 : Int32))]))
      refine zq_go (fun _ k => XS.istore X11.here hx rfl (hb hby at_93) rfl (l' := #[.val (.int x0), .val (.int x1), .val (.int x2), .val (.int x3), .val (.int x4), .val (.int (2 : Int32)), .val (.ref b8), .val (.int (0 : Int32))]) rfl k) ?_
      show zq_Go p e below s _ _ _ (T11.setTop (mkF m 95 #[.val (.int x0), .val (.int x1), .val (.int x2), .val (.int x3), .val (.int x4), .val (.int (2 : Int32)), .val (.ref b8), .val (.int (0 : Int32))] []))
      refine zq_go (fun _ k => XS.aload X11.here hx rfl (hb hby at_95) rfl rfl k) ?_
      show zq_Go p e below s _ _ _ (T11.setTop (mkF m 97 #[.val (.int x0), .val (.int x1), .val (.int x2), .val (.int x3), .val (.int x4), .val (.int (2 : Int32)), .val (.ref b8), .val (.int (0 : Int32))] [(.ref b8)]))
      refine zq_go (fun _ k => XS.iload X11.here hx rfl (hb hby at_97) rfl k) ?_
      show zq_Go p e below s _ _ _ (T11.setTop (mkF m 99 #[.val (.int x0), .val (.int x1), .val (.int x2), .val (.int x3), .val (.int x4), .val (.int (2 : Int32)), .val (.ref b8), .val (.int (0 : Int32))] [(.int x4), (.ref b8)]))
      obtain ⟨T12, X12, e12, st12⟩ := zq_callP (W := 0) X11 hx hZ hown (hw _ (List.mem_of_getElem? (i := 1) rfl)) (hw _ (List.mem_of_getElem? (i := 2) rfl)) (hw _ (List.mem_of_getElem? (i := 3) rfl)) (hw _ (List.mem_of_getElem? (i := 4) rfl)) (by decide) (zq_rmA l Z a0 hw [] b8 x4 h10 2 (fun k => ([x1, x2] : List Int32).getD k 0) A_b8 (by decide)) e11 (by decide) (by decide) rfl rfl (by decide) (by decide) (g := (mkF m 99 #[.val (.int x0), .val (.int x1), .val (.int x2), .val (.int x3), .val (.int x4), .val (.int (2 : Int32)), .val (.ref b8), .val (.int (0 : Int32))] [(.int x4), (.ref b8)])) rfl (by rw [hml]; rfl) (argsL := [(.ref b8), (.int x4)]) (rest := []) (lenOf zq_pd2 rfl) rfl (by show 2 * 0 + _ ≤ _; exact Nat.le_of_eq rfl) (hb hby at_99)
      refine zq_go st12 ?_
      show zq_Go p e below s _ _ _ (T12.setTop (mkF m 102 #[.val (.int x0), .val (.int x1), .val (.int x2), .val (.int x3), .val (.int x4), .val (.int (2 : Int32)), .val (.ref b8), .val (.int (0 : Int32))] [(.int (zq_all (fun k => ([x1, x2] : List Int32).getD k 0) x4 2 0))]))
      refine zq_go (fun _ k => XS.iload X12.here hx rfl (hb hby at_102) rfl k) ?_
      show zq_Go p e below s _ _ _ (T12.setTop (mkF m 104 #[.val (.int x0), .val (.int x1), .val (.int x2), .val (.int x3), .val (.int x4), .val (.int (2 : Int32)), .val (.ref b8), .val (.int (0 : Int32))] [(.int (0 : Int32)), (.int (zq_all (fun k => ([x1, x2] : List Int32).getD k 0) x4 2 0))]))
      refine zq_go (fun _ k => XS.icmpNo X12.here hx rfl (hb hby at_104) rfl (teq (by show (if zq_in x1 x4 = 0 then (0 : Int32) else (if zq_in x2 x4 = 0 then (0 : Int32) else (1 : Int32))) = _; rw [if_pos hc55] : (zq_all (fun k => ([x1, x2] : List Int32).getD k 0) x4 2 0) = (0 : Int32))).2 k) ?_
      show zq_Go p e below s _ _ _ (T12.setTop (mkF m 107 #[.val (.int x0), .val (.int x1), .val (.int x2), .val (.int x3), .val (.int x4), .val (.int (2 : Int32)), .val (.ref b8), .val (.int (0 : Int32))] []))
      refine zq_go (fun _ k => XS.iconst X12.here hx rfl (hb hby at_107) k) ?_
      show zq_Go p e below s _ _ _ (T12.setTop (mkF m 108 #[.val (.int x0), .val (.int x1), .val (.int x2), .val (.int x3), .val (.int x4), .val (.int (2 : Int32)), .val (.ref b8), .val (.int (0 : Int32))] [(.int (1 : Int32))]))
      refine zq_go (fun _ k => XS.goto X12.here hx rfl (pc0 := 108) (pc' := 112) rfl (hb hby at_108) (by decide) (by decide) k) ?_
      show zq_Go p e below s _ _ _ (T12.setTop (mkF m 112 #[.val (.int x0), .val (.int x1), .val (.int x2), .val (.int x3), .val (.int x4), .val (.int (2 : Int32)), .val (.ref b8), .val (.int (0 : Int32))] [(.int (1 : Int32))]))
      exact zq_retN X12 hx hlk (t := .boolean) hret (by simp) (hb hby at_112) ⟨rfl, NF⟩ (by decide) (by decide)
    refine zq_go (fun _ k => XS.ifNo X11.here hx rfl (hb hby at_55) rfl ((if0 _ _).trans (feq hc55).1) k) ?_
    show zq_Go p e below s _ _ _ (T11.setTop (mkF m 58 #[.val (.int x0), .val (.int x1), .val (.int x2), .val (.int x3), .val (.int x4), .val (.int (2 : Int32)), .val (.ref b8), .unset] []))
    refine zq_go (fun _ k => XS.iload X11.here hx rfl (hb hby at_58) rfl k) ?_
    show zq_Go p e below s _ _ _ (T11.setTop (mkF m 60 #[.val (.int x0), .val (.int x1), .val (.int x2), .val (.int x3), .val (.int x4), .val (.int (2 : Int32)), .val (.ref b8), .unset] [(.int (2 : Int32))]))
    refine zq_go (fun _ k => XS.iconst X11.here hx rfl (hb hby at_60) k) ?_
    show zq_Go p e below s _ _ _ (T11.setTop (mkF m 61 #[.val (.int x0), .val (.int x1), .val (.int x2), .val (.int x3), .val (.int x4), .val (.int (2 : Int32)), .val (.ref b8), .unset] [(.int (2 : Int32)), (.int (2 : Int32))]))
    refine zq_go (fun _ k => XS.icmpNo X11.here hx rfl (hb hby at_61) rfl (flt (by decide : ¬ ((2 : Int32) < (2 : Int32)))).1 k) ?_
    show zq_Go p e below s _ _ _ (T11.setTop (mkF m 64 #[.val (.int x0), .val (.int x1), .val (.int x2), .val (.int x3), .val (.int x4), .val (.int (2 : Int32)), .val (.ref b8), .unset] []))
    refine zq_go (fun _ k => XS.iloadN X11.here hx rfl (hb hby at_64) rfl k) ?_
    show zq_Go p e below s _ _ _ (T11.setTop (mkF m 65 #[.val (.int x0), .val (.int x1), .val (.int x2), .val (.int x3), .val (.int x4), .val (.int (2 : Int32)), .val (.ref b8), .unset] [(.int x2)]))
    refine zq_go (fun _ k => XS.iload X11.here hx rfl (hb hby at_65) rfl k) ?_
    show zq_Go p e below s _ _ _ (T11.setTop (mkF m 67 #[.val (.int x0), .val (.int x1), .val (.int x2), .val (.int x3), .val (.int x4), .val (.int (2 : Int32)), .val (.ref b8), .unset] [(.int x4), (.int x2)]))
    obtain ⟨T13, X13, e13, st13⟩ := zq_callP (W := 0) X11 hx hZ hown (hw _ (List.mem_of_getElem? (i := 5) rfl)) (hw _ (List.mem_of_getElem? (i := 6) rfl)) (hw _ (List.mem_of_getElem? (i := 7) rfl)) (hw _ (List.mem_of_getElem? (i := 8) rfl)) (by decide) (zq_rmI l Z a0 hw [] x2 x4 h10) e11 (by decide) (by decide) rfl rfl (by decide) (by decide) (g := (mkF m 67 #[.val (.int x0), .val (.int x1), .val (.int x2), .val (.int x3), .val (.int x4), .val (.int (2 : Int32)), .val (.ref b8), .unset] [(.int x4), (.int x2)])) rfl (by rw [hml]; rfl) (argsL := [(.int x2), (.int x4)]) (rest := []) (lenOf zq_pd3 rfl) rfl (by show 2 * 0 + _ ≤ _; exact Nat.le_of_eq rfl) (hb hby at_67)
    refine zq_go st13 ?_
    show zq_Go p e below s _ _ _ (T13.setTop (mkF m 70 #[.val (.int x0), .val (.int x1), .val (.int x2), .val (.int x3), .val (.int x4), .val (.int (2 : Int32)), .val (.ref b8), .unset] [(.int (zq_in x2 x4))]))
    by_cases hc70 : (zq_in x2 x4) = (0 : Int32)
    ·
      refine zq_go (fun _ k => XS.ifYes X13.here hx rfl (pc0 := 70) (pc' := 92) rfl (hb hby at_70) rfl ((if0 _ _).trans (teq hc70).1) (by decide) (by decide) k) ?_
      show zq_Go p e below s _ _ _ (T13.setTop (mkF m 92 #[.val (.int x0), .val (.int x1), .val (.int x2), .val (.int x3), .val (.int x4), .val (.int (2 : Int32)), .val (.ref b8), .unset] []))
      refine zq_go (fun _ k => XS.iconst X13.here hx rfl (hb hby at_92) k) ?_
      show zq_Go p e below s _ _ _ (T13.setTop (mkF m 93 #[.val (.int x0), .val (.int x1), .val (.int x2), .val (.int x3), .val (.int x4), .val (.int (2 : Int32)), .val (.ref b8), .unset] [(.int (0 : Int32))]))
      refine zq_go (fun _ k => XS.istore X13.here hx rfl (hb hby at_93) rfl (l' := #[.val (.int x0), .val (.int x1), .val (.int x2), .val (.int x3), .val (.int x4), .val (.int (2 : Int32)), .val (.ref b8), .val (.int (0 : Int32))]) rfl k) ?_
      show zq_Go p e below s _ _ _ (T13.setTop (mkF m 95 #[.val (.int x0), .val (.int x1), .val (.int x2), .val (.int x3), .val (.int x4), .val (.int (2 : Int32)), .val (.ref b8), .val (.int (0 : Int32))] []))
      refine zq_go (fun _ k => XS.aload X13.here hx rfl (hb hby at_95) rfl rfl k) ?_
      show zq_Go p e below s _ _ _ (T13.setTop (mkF m 97 #[.val (.int x0), .val (.int x1), .val (.int x2), .val (.int x3), .val (.int x4), .val (.int (2 : Int32)), .val (.ref b8), .val (.int (0 : Int32))] [(.ref b8)]))
      refine zq_go (fun _ k => XS.iload X13.here hx rfl (hb hby at_97) rfl k) ?_
      show zq_Go p e below s _ _ _ (T13.setTop (mkF m 99 #[.val (.int x0), .val (.int x1), .val (.int x2), .val (.int x3), .val (.int x4), .val (.int (2 : Int32)), .val (.ref b8), .val (.int (0 : Int32))] [(.int x4), (.ref b8)]))
      obtain ⟨T14, X14, e14, st14⟩ := zq_callP (W := 0) X13 hx hZ hown (hw _ (List.mem_of_getElem? (i := 1) rfl)) (hw _ (List.mem_of_getElem? (i := 2) rfl)) (hw _ (List.mem_of_getElem? (i := 3) rfl)) (hw _ (List.mem_of_getElem? (i := 4) rfl)) (by decide) (zq_rmA l Z a0 hw [] b8 x4 h10 2 (fun k => ([x1, x2] : List Int32).getD k 0) A_b8 (by decide)) e13 (by decide) (by decide) rfl rfl (by decide) (by decide) (g := (mkF m 99 #[.val (.int x0), .val (.int x1), .val (.int x2), .val (.int x3), .val (.int x4), .val (.int (2 : Int32)), .val (.ref b8), .val (.int (0 : Int32))] [(.int x4), (.ref b8)])) rfl (by rw [hml]; rfl) (argsL := [(.ref b8), (.int x4)]) (rest := []) (lenOf zq_pd2 rfl) rfl (by show 2 * 0 + _ ≤ _; exact Nat.le_of_eq rfl) (hb hby at_99)
      refine zq_go st14 ?_
      show zq_Go p e below s _ _ _ (T14.setTop (mkF m 102 #[.val (.int x0), .val (.int x1), .val (.int x2), .val (.int x3), .val (.int x4), .val (.int (2 : Int32)), .val (.ref b8), .val (.int (0 : Int32))] [(.int (zq_all (fun k => ([x1, x2] : List Int32).getD k 0) x4 2 0))]))
      refine zq_go (fun _ k => XS.iload X14.here hx rfl (hb hby at_102) rfl k) ?_
      show zq_Go p e below s _ _ _ (T14.setTop (mkF m 104 #[.val (.int x0), .val (.int x1), .val (.int x2), .val (.int x3), .val (.int x4), .val (.int (2 : Int32)), .val (.ref b8), .val (.int (0 : Int32))] [(.int (0 : Int32)), (.int (zq_all (fun k => ([x1, x2] : List Int32).getD k 0) x4 2 0))]))
      refine zq_go (fun _ k => XS.icmpNo X14.here hx rfl (hb hby at_104) rfl (teq (by show (if zq_in x1 x4 = 0 then (0 : Int32) else (if zq_in x2 x4 = 0 then (0 : Int32) else (1 : Int32))) = _; rw [if_neg hc55, if_pos hc70] : (zq_all (fun k => ([x1, x2] : List Int32).getD k 0) x4 2 0) = (0 : Int32))).2 k) ?_
      show zq_Go p e below s _ _ _ (T14.setTop (mkF m 107 #[.val (.int x0), .val (.int x1), .val (.int x2), .val (.int x3), .val (.int x4), .val (.int (2 : Int32)), .val (.ref b8), .val (.int (0 : Int32))] []))
      refine zq_go (fun _ k => XS.iconst X14.here hx rfl (hb hby at_107) k) ?_
      show zq_Go p e below s _ _ _ (T14.setTop (mkF m 108 #[.val (.int x0), .val (.int x1), .val (.int x2), .val (.int x3), .val (.int x4), .val (.int (2 : Int32)), .val (.ref b8), .val (.int (0 : Int32))] [(.int (1 : Int32))]))
      refine zq_go (fun _ k => XS.goto X14.here hx rfl (pc0 := 108) (pc' := 112) rfl (hb hby at_108) (by decide) (by decide) k) ?_
      show zq_Go p e below s _ _ _ (T14.setTop (mkF m 112 #[.val (.int x0), .val (.int x1), .val (.int x2), .val (.int x3), .val (.int x4), .val (.int (2 : Int32)), .val (.ref b8), .val (.int (0 : Int32))] [(.int (1 : Int32))]))
      exact zq_retN X14 hx hlk (t := .boolean) hret (by simp) (hb hby at_112) ⟨rfl, NF⟩ (by decide) (by decide)
    refine zq_go (fun _ k => XS.ifNo X13.here hx rfl (hb hby at_70) rfl ((if0 _ _).trans (feq hc70).1) k) ?_
    show zq_Go p e below s _ _ _ (T13.setTop (mkF m 73 #[.val (.int x0), .val (.int x1), .val (.int x2), .val (.int x3), .val (.int x4), .val (.int (2 : Int32)), .val (.ref b8), .unset] []))
    refine zq_go (fun _ k => XS.iload X13.here hx rfl (hb hby at_73) rfl k) ?_
    show zq_Go p e below s _ _ _ (T13.setTop (mkF m 75 #[.val (.int x0), .val (.int x1), .val (.int x2), .val (.int x3), .val (.int x4), .val (.int (2 : Int32)), .val (.ref b8), .unset] [(.int (2 : Int32))]))
    refine zq_go (fun _ k => XS.iconst X13.here hx rfl (hb hby at_75) k) ?_
    show zq_Go p e below s _ _ _ (T13.setTop (mkF m 76 #[.val (.int x0), .val (.int x1), .val (.int x2), .val (.int x3), .val (.int x4), .val (.int (2 : Int32)), .val (.ref b8), .unset] [(.int (3 : Int32)), (.int (2 : Int32))]))
    refine zq_go (fun _ k => XS.icmpYes X13.here hx rfl (pc0 := 76) (pc' := 88) rfl (hb hby at_76) rfl (tlt (by decide : (2 : Int32) < (3 : Int32))).1 (by decide) (by decide) k) ?_
    show zq_Go p e below s _ _ _ (T13.setTop (mkF m 88 #[.val (.int x0), .val (.int x1), .val (.int x2), .val (.int x3), .val (.int x4), .val (.int (2 : Int32)), .val (.ref b8), .unset] []))
    refine zq_go (fun _ k => XS.iconst X13.here hx rfl (hb hby at_88) k) ?_
    show zq_Go p e below s _ _ _ (T13.setTop (mkF m 89 #[.val (.int x0), .val (.int x1), .val (.int x2), .val (.int x3), .val (.int x4), .val (.int (2 : Int32)), .val (.ref b8), .unset] [(.int (1 : Int32))]))
    refine zq_go (fun _ k => XS.goto X13.here hx rfl (pc0 := 89) (pc' := 93) rfl (hb hby at_89) (by decide) (by decide) k) ?_
    show zq_Go p e below s _ _ _ (T13.setTop (mkF m 93 #[.val (.int x0), .val (.int x1), .val (.int x2), .val (.int x3), .val (.int x4), .val (.int (2 : Int32)), .val (.ref b8), .unset] [(.int (1 : Int32))]))
    refine zq_go (fun _ k => XS.istore X13.here hx rfl (hb hby at_93) rfl (l' := #[.val (.int x0), .val (.int x1), .val (.int x2), .val (.int x3), .val (.int x4), .val (.int (2 : Int32)), .val (.ref b8), .val (.int (1 : Int32))]) rfl k) ?_
    show zq_Go p e below s _ _ _ (T13.setTop (mkF m 95 #[.val (.int x0), .val (.int x1), .val (.int x2), .val (.int x3), .val (.int x4), .val (.int (2 : Int32)), .val (.ref b8), .val (.int (1 : Int32))] []))
    refine zq_go (fun _ k => XS.aload X13.here hx rfl (hb hby at_95) rfl rfl k) ?_
    show zq_Go p e below s _ _ _ (T13.setTop (mkF m 97 #[.val (.int x0), .val (.int x1), .val (.int x2), .val (.int x3), .val (.int x4), .val (.int (2 : Int32)), .val (.ref b8), .val (.int (1 : Int32))] [(.ref b8)]))
    refine zq_go (fun _ k => XS.iload X13.here hx rfl (hb hby at_97) rfl k) ?_
    show zq_Go p e below s _ _ _ (T13.setTop (mkF m 99 #[.val (.int x0), .val (.int x1), .val (.int x2), .val (.int x3), .val (.int x4), .val (.int (2 : Int32)), .val (.ref b8), .val (.int (1 : Int32))] [(.int x4), (.ref b8)]))
    obtain ⟨T15, X15, e15, st15⟩ := zq_callP (W := 0) X13 hx hZ hown (hw _ (List.mem_of_getElem? (i := 1) rfl)) (hw _ (List.mem_of_getElem? (i := 2) rfl)) (hw _ (List.mem_of_getElem? (i := 3) rfl)) (hw _ (List.mem_of_getElem? (i := 4) rfl)) (by decide) (zq_rmA l Z a0 hw [] b8 x4 h10 2 (fun k => ([x1, x2] : List Int32).getD k 0) A_b8 (by decide)) e13 (by decide) (by decide) rfl rfl (by decide) (by decide) (g := (mkF m 99 #[.val (.int x0), .val (.int x1), .val (.int x2), .val (.int x3), .val (.int x4), .val (.int (2 : Int32)), .val (.ref b8), .val (.int (1 : Int32))] [(.int x4), (.ref b8)])) rfl (by rw [hml]; rfl) (argsL := [(.ref b8), (.int x4)]) (rest := []) (lenOf zq_pd2 rfl) rfl (by show 2 * 0 + _ ≤ _; exact Nat.le_of_eq rfl) (hb hby at_99)
    refine zq_go st15 ?_
    show zq_Go p e below s _ _ _ (T15.setTop (mkF m 102 #[.val (.int x0), .val (.int x1), .val (.int x2), .val (.int x3), .val (.int x4), .val (.int (2 : Int32)), .val (.ref b8), .val (.int (1 : Int32))] [(.int (zq_all (fun k => ([x1, x2] : List Int32).getD k 0) x4 2 0))]))
    refine zq_go (fun _ k => XS.iload X15.here hx rfl (hb hby at_102) rfl k) ?_
    show zq_Go p e below s _ _ _ (T15.setTop (mkF m 104 #[.val (.int x0), .val (.int x1), .val (.int x2), .val (.int x3), .val (.int x4), .val (.int (2 : Int32)), .val (.ref b8), .val (.int (1 : Int32))] [(.int (1 : Int32)), (.int (zq_all (fun k => ([x1, x2] : List Int32).getD k 0) x4 2 0))]))
    refine zq_go (fun _ k => XS.icmpNo X15.here hx rfl (hb hby at_104) rfl (teq (by show (if zq_in x1 x4 = 0 then (0 : Int32) else (if zq_in x2 x4 = 0 then (0 : Int32) else (1 : Int32))) = _; rw [if_neg hc55, if_neg hc70] : (zq_all (fun k => ([x1, x2] : List Int32).getD k 0) x4 2 0) = (1 : Int32))).2 k) ?_
    show zq_Go p e below s _ _ _ (T15.setTop (mkF m 107 #[.val (.int x0), .val (.int x1), .val (.int x2), .val (.int x3), .val (.int x4), .val (.int (2 : Int32)), .val (.ref b8), .val (.int (1 : Int32))] []))
    refine zq_go (fun _ k => XS.iconst X15.here hx rfl (hb hby at_107) k) ?_
    show zq_Go p e below s _ _ _ (T15.setTop (mkF m 108 #[.val (.int x0), .val (.int x1), .val (.int x2), .val (.int x3), .val (.int x4), .val (.int (2 : Int32)), .val (.ref b8), .val (.int (1 : Int32))] [(.int (1 : Int32))]))
    refine zq_go (fun _ k => XS.goto X15.here hx rfl (pc0 := 108) (pc' := 112) rfl (hb hby at_108) (by decide) (by decide) k) ?_
    show zq_Go p e below s _ _ _ (T15.setTop (mkF m 112 #[.val (.int x0), .val (.int x1), .val (.int x2), .val (.int x3), .val (.int x4), .val (.int (2 : Int32)), .val (.ref b8), .val (.int (1 : Int32))] [(.int (1 : Int32))]))
    exact zq_retN X15 hx hlk (t := .boolean) hret (by simp) (hb hby at_112) ⟨rfl, NF⟩ (by decide) (by decide)
  ·
    rw [hn]
    show zq_Go p e below s _ _ _ (s₁.setTop (mkF m 3 #[.val (.int x0), .val (.int x1), .val (.int x2), .val (.int x3), .val (.int x4), .unset, .unset, .unset] [(.int (3 : Int32))]))
    refine zq_go (fun _ k => XS.istore X0.here hx rfl (hb hby at_3) rfl (l' := #[.val (.int x0), .val (.int x1), .val (.int x2), .val (.int x3), .val (.int x4), .val (.int (3 : Int32)), .unset, .unset]) rfl k) ?_
    show zq_Go p e below s _ _ _ (s₁.setTop (mkF m 5 #[.val (.int x0), .val (.int x1), .val (.int x2), .val (.int x3), .val (.int x4), .val (.int (3 : Int32)), .unset, .unset] []))
    refine zq_go (fun _ k => XS.iload X0.here hx rfl (hb hby at_5) rfl k) ?_
    show zq_Go p e below s _ _ _ (s₁.setTop (mkF m 7 #[.val (.int x0), .val (.int x1), .val (.int x2), .val (.int x3), .val (.int x4), .val (.int (3 : Int32)), .unset, .unset] [(.int (3 : Int32))]))
    obtain ⟨T16, h16, b16, gb16, X16, e16, E16, A_b16, st16⟩ := zq_newA (aty := .int) X0 hx hZ (hw _ (List.mem_of_getElem? (i := 0) rfl)) e0 (g := (mkF m 7 #[.val (.int x0), .val (.int x1), .val (.int x2), .val (.int x3), .val (.int x4), .val (.int (3 : Int32)), .unset, .unset] [(.int (3 : Int32))])) rfl (hb hby at_7) rfl (by decide) (n := 3) (by decide) (cap := 3) (by decide) (by decide) (by decide) (by decide)
    have g_b16 : h0.size ≤ b16 := by rw [gb16]; exact ZS
    have ZS := Nat.le_trans ZS E16.1
    have X16 : Stand p l e room_1 s m #[(.int x0), (.int x1), (.int x2), (.int x3), (.int x4)] below meth c T16 [] 1 3 := X16
    have A_b16 : zq_A Z h16 b16 .int 3 (fun k => .int (([(0 : Int32), (0 : Int32), (0 : Int32)] : List Int32).getD k 0)) := A_b16.congr (fun j hj => by match j, hj with | 0, _ => rfl | 1, _ => rfl | 2, _ => rfl | (j + 3), hj => exact absurd hj (by omega))
    refine zq_go st16 ?_
    show zq_Go p e below s _ _ _ (T16.setTop (mkF m 9 #[.val (.int x0), .val (.int x1), .val (.int x2), .val (.int x3), .val (.int x4), .val (.int (3 : Int32)), .unset, .unset] [(.ref b16)]))
    refine zq_go (fun _ k => XS.astore X16.here hx rfl (hb hby at_9) rfl rfl (l' := #[.val (.int x0), .val (.int x1), .val (.int x2), .val (.int x3), .val (.int x4), .val (.int (3 : Int32)), .val (.ref b16), .unset]) rfl k) ?_
    show zq_Go p e below s _ _ _ (T16.setTop (mkF m 11 #[.val (.int x0), .val (.int x1), .val (.int x2), .val (.int x3), .val (.int x4), .val (.int (3 : Int32)), .val (.ref b16), .unset] []))
    refine zq_go (fun _ k => XS.iload X16.here hx rfl (hb hby at_11) rfl k) ?_
    show zq_Go p e below s _ _ _ (T16.setTop (mkF m 13 #[.val (.int x0), .val (.int x1), .val (.int x2), .val (.int x3), .val (.int x4), .val (.int (3 : Int32)), .val (.ref b16), .unset] [(.int (3 : Int32))]))
    refine zq_go (fun _ k => XS.ifNo X16.here hx rfl (hb hby at_13) rfl ((if0 _ _).trans (tlt (by decide : (0 : Int32) < (3 : Int32))).2.2.2) k) ?_
    show zq_Go p e below s _ _ _ (T16.setTop (mkF m 16 #[.val (.int x0), .val (.int x1), .val (.int x2), .val (.int x3), .val (.int x4), .val (.int (3 : Int32)), .val (.ref b16), .unset] []))
    refine zq_go (fun _ k => XS.aload X16.here hx rfl (hb hby at_16) rfl rfl k) ?_
    show zq_Go p e below s _ _ _ (T16.setTop (mkF m 18 #[.val (.int x0), .val (.int x1), .val (.int x2), .val (.int x3), .val (.int x4), .val (.int (3 : Int32)), .val (.ref b16), .unset] [(.ref b16)]))
    refine zq_go (fun _ k => XS.iconst X16.here hx rfl (hb hby at_18) k) ?_
    show zq_Go p e below s _ _ _ (T16.setTop (mkF m 19 #[.val (.int x0), .val (.int x1), .val (.int x2), .val (.int x3), .val (.int x4), .val (.int (3 : Int32)), .val (.ref b16), .unset] [(.int (0 : Int32)), (.ref b16)]))
    refine zq_go (fun _ k => XS.iloadN X16.here hx rfl (hb hby at_19) rfl k) ?_
    show zq_Go p e below s _ _ _ (T16.setTop (mkF m 20 #[.val (.int x0), .val (.int x1), .val (.int x2), .val (.int x3), .val (.int x4), .val (.int (3 : Int32)), .val (.ref b16), .unset] [(.int x1), (.int (0 : Int32)), (.ref b16)]))
    obtain ⟨T17, h17, X17, e17, W17, A_b16, st17⟩ := zq_stI X16 hx hZ e16 A_b16 (j := (0 : Int32)) (i := 0) (by decide) (by decide) (by decide) (g := (mkF m 20 #[.val (.int x0), .val (.int x1), .val (.int x2), .val (.int x3), .val (.int x4), .val (.int (3 : Int32)), .val (.ref b16), .unset] [(.int x1), (.int (0 : Int32)), (.ref b16)])) rfl rfl (hb hby at_20)
    refine zq_go st17 ?_
    have ZS := Nat.le_trans ZS (Keep.of_wr W17).1
    have A_b16 : zq_A Z h17 b16 .int 3 (fun k => .int (([x1, (0 : Int32), (0 : Int32)] : List Int32).getD k 0)) := A_b16.congr (fun j hj => by match j, hj with | 0, _ => rfl | 1, _ => rfl | 2, _ => rfl | (j + 3), hj => exact absurd hj (by omega))
    obtain ⟨L17, X17, NF⟩ : ∃ L : List Loc, Stand p l e room_1 s m #[(.int x0), (.int x1), (.int x2), (.int x3), (.int x4)] below meth c T17 L 1 3 ∧ Fr h0.size L := ⟨_, X17, Fr.snoc X17 NF g_b16⟩
    show zq_Go p e below s _ _ _ (T17.setTop (mkF m 21 #[.val (.int x0), .val (.int x1), .val (.int x2), .val (.int x3), .val (.int x4), .val (.int (3 : Int32)), .val (.ref b16), .unset] []))
    refine zq_go (fun _ k => XS.iload X17.here hx rfl (hb hby at_21) rfl k) ?_
    show zq_Go p e below s _ _ _ (T17.setTop (mkF m 23 #[.val (.int x0), .val (.int x1), .val (.int x2), .val (.int x3), .val (.int x4), .val (.int (3 : Int32)), .val (.ref b16), .unset] [(.int (3 : Int32))]))
    refine zq_go (fun _ k => XS.iconst X17.here hx rfl (hb hby at_23) k) ?_
    show zq_Go p e below s _ _ _ (T17.setTop (mkF m 24 #[.val (.int x0), .val (.int x1), .val (.int x2), .val (.int x3), .val (.int x4), .val (.int (3 : Int32)), .val (.ref b16), .unset] [(.int (1 : Int32)), (.int (3 : Int32))]))
    refine zq_go (fun _ k => XS.icmpNo X17.here hx rfl (hb hby at_24) rfl (tlt (by decide : (1 : Int32) < (3 : Int32))).2.2.2 k) ?_
    show zq_Go p e below s _ _ _ (T17.setTop (mkF m 27 #[.val (.int x0), .val (.int x1), .val (.int x2), .val (.int x3), .val (.int x4), .val (.int (3 : Int32)), .val (.ref b16), .unset] []))
    refine zq_go (fun _ k => XS.aload X17.here hx rfl (hb hby at_27) rfl rfl k) ?_
    show zq_Go p e below s _ _ _ (T17.setTop (mkF m 29 #[.val (.int x0), .val (.int x1), .val (.int x2), .val (.int x3), .val (.int x4), .val (.int (3 : Int32)), .val (.ref b16), .unset] [(.ref b16)]))
    refine zq_go (fun _ k => XS.iconst X17.here hx rfl (hb hby at_29) k) ?_
    show zq_Go p e below s _ _ _ (T17.setTop (mkF m 30 #[.val (.int x0), .val (.int x1), .val (.int x2), .val (.int x3), .val (.int x4), .val (.int (3 : Int32)), .val (.ref b16), .unset] [(.int (1 : Int32)), (.ref b16)]))
    refine zq_go (fun _ k => XS.iloadN X17.here hx rfl (hb hby at_30) rfl k) ?_
    show zq_Go p e below s _ _ _ (T17.setTop (mkF m 31 #[.val (.int x0), .val (.int x1), .val (.int x2), .val (.int x3), .val (.int x4), .val (.int (3 : Int32)), .val (.ref b16), .unset] [(.int x2), (.int (1 : Int32)), (.ref b16)]))
    obtain ⟨T18, h18, X18, e18, W18, A_b16, st18⟩ := zq_stI X17 hx hZ e17 A_b16 (j := (1 : Int32)) (i := 1) (by decide) (by decide) (by decide) (g := (mkF m 31 #[.val (.int x0), .val (.int x1), .val (.int x2), .val (.int x3), .val (.int x4), .val (.int (3 : Int32)), .val (.ref b16), .unset] [(.int x2), (.int (1 : Int32)), (.ref b16)])) rfl rfl (hb hby at_31)
    refine zq_go st18 ?_
    have ZS := Nat.le_trans ZS (Keep.of_wr W18).1
    have A_b16 : zq_A Z h18 b16 .int 3 (fun k => .int (([x1, x2, (0 : Int32)] : List Int32).getD k 0)) := A_b16.congr (fun j hj => by match j, hj with | 0, _ => rfl | 1, _ => rfl | 2, _ => rfl | (j + 3), hj => exact absurd hj (by omega))
    obtain ⟨L18, X18, NF⟩ : ∃ L : List Loc, Stand p l e room_1 s m #[(.int x0), (.int x1), (.int x2), (.int x3), (.int x4)] below meth c T18 L 1 3 ∧ Fr h0.size L := ⟨_, X18, Fr.snoc X18 NF g_b16⟩
    show zq_Go p e below s _ _ _ (T18.setTop (mkF m 32 #[.val (.int x0), .val (.int x1), .val (.int x2), .val (.int x3), .val (.int x4), .val (.int (3 : Int32)), .val (.ref b16), .unset] []))
    refine zq_go (fun _ k => XS.iload X18.here hx rfl (hb hby at_32) rfl k) ?_
    show zq_Go p e below s _ _ _ (T18.setTop (mkF m 34 #[.val (.int x0), .val (.int x1), .val (.int x2), .val (.int x3), .val (.int x4), .val (.int (3 : Int32)), .val (.ref b16), .unset] [(.int (3 : Int32))]))
    refine zq_go (fun _ k => XS.iconst X18.here hx rfl (hb hby at_34) k) ?_
    show zq_Go p e below s _ _ _ (T18.setTop (mkF m 35 #[.val (.int x0), .val (.int x1), .val (.int x2), .val (.int x3), .val (.int x4), .val (.int (3 : Int32)), .val (.ref b16), .unset] [(.int (2 : Int32)), (.int (3 : Int32))]))
    refine zq_go (fun _ k => XS.icmpNo X18.here hx rfl (hb hby at_35) rfl (tlt (by decide : (2 : Int32) < (3 : Int32))).2.2.2 k) ?_
    show zq_Go p e below s _ _ _ (T18.setTop (mkF m 38 #[.val (.int x0), .val (.int x1), .val (.int x2), .val (.int x3), .val (.int x4), .val (.int (3 : Int32)), .val (.ref b16), .unset] []))
    refine zq_go (fun _ k => XS.aload X18.here hx rfl (hb hby at_38) rfl rfl k) ?_
    show zq_Go p e below s _ _ _ (T18.setTop (mkF m 40 #[.val (.int x0), .val (.int x1), .val (.int x2), .val (.int x3), .val (.int x4), .val (.int (3 : Int32)), .val (.ref b16), .unset] [(.ref b16)]))
    refine zq_go (fun _ k => XS.iconst X18.here hx rfl (hb hby at_40) k) ?_
    show zq_Go p e below s _ _ _ (T18.setTop (mkF m 41 #[.val (.int x0), .val (.int x1), .val (.int x2), .val (.int x3), .val (.int x4), .val (.int (3 : Int32)), .val (.ref b16), .unset] [(.int (2 : Int32)), (.ref b16)]))
    refine zq_go (fun _ k => XS.iloadN X18.here hx rfl (hb hby at_41) rfl k) ?_
    show zq_Go p e below s _ _ _ (T18.setTop (mkF m 42 #[.val (.int x0), .val (.int x1), .val (.int x2), .val (.int x3), .val (.int x4), .val (.int (3 : Int32)), .val (.ref b16), .unset] [(.int x3), (.int (2 : Int32)), (.ref b16)]))
    obtain ⟨T19, h19, X19, e19, W19, A_b16, st19⟩ := zq_stI X18 hx hZ e18 A_b16 (j := (2 : Int32)) (i := 2) (by decide) (by decide) (by decide) (g := (mkF m 42 #[.val (.int x0), .val (.int x1), .val (.int x2), .val (.int x3), .val (.int x4), .val (.int (3 : Int32)), .val (.ref b16), .unset] [(.int x3), (.int (2 : Int32)), (.ref b16)])) rfl rfl (hb hby at_42)
    refine zq_go st19 ?_
    have ZS := Nat.le_trans ZS (Keep.of_wr W19).1
    have A_b16 : zq_A Z h19 b16 .int 3 (fun k => .int (([x1, x2, x3] : List Int32).getD k 0)) := A_b16.congr (fun j hj => by match j, hj with | 0, _ => rfl | 1, _ => rfl | 2, _ => rfl | (j + 3), hj => exact absurd hj (by omega))
    obtain ⟨L19, X19, NF⟩ : ∃ L : List Loc, Stand p l e room_1 s m #[(.int x0), (.int x1), (.int x2), (.int x3), (.int x4)] below meth c T19 L 1 3 ∧ Fr h0.size L := ⟨_, X19, Fr.snoc X19 NF g_b16⟩
    show zq_Go p e below s _ _ _ (T19.setTop (mkF m 43 #[.val (.int x0), .val (.int x1), .val (.int x2), .val (.int x3), .val (.int x4), .val (.int (3 : Int32)), .val (.ref b16), .unset] []))
    refine zq_go (fun _ k => XS.iload X19.here hx rfl (hb hby at_43) rfl k) ?_
    show zq_Go p e below s _ _ _ (T19.setTop (mkF m 45 #[.val (.int x0), .val (.int x1), .val (.int x2), .val (.int x3), .val (.int x4), .val (.int (3 : Int32)), .val (.ref b16), .unset] [(.int (3 : Int32))]))
    refine zq_go (fun _ k => XS.iconst X19.here hx rfl (hb hby at_45) k) ?_
    show zq_Go p e below s _ _ _ (T19.setTop (mkF m 46 #[.val (.int x0), .val (.int x1), .val (.int x2), .val (.int x3), .val (.int x4), .val (.int (3 : Int32)), .val (.ref b16), .unset] [(.int (1 : Int32)), (.int (3 : Int32))]))
    refine zq_go (fun _ k => XS.icmpNo X19.here hx rfl (hb hby at_46) rfl (flt (by decide : ¬ ((3 : Int32) < (1 : Int32)))).1 k) ?_
    show zq_Go p e below s _ _ _ (T19.setTop (mkF m 49 #[.val (.int x0), .val (.int x1), .val (.int x2), .val (.int x3), .val (.int x4), .val (.int (3 : Int32)), .val (.ref b16), .unset] []))
    refine zq_go (fun _ k => XS.iloadN X19.here hx rfl (hb hby at_49) rfl k) ?_
    show zq_Go p e below s _ _ _ (T19.setTop (mkF m 50 #[.val (.int x0), .val (.int x1), .val (.int x2), .val (.int x3), .val (.int x4), .val (.int (3 : Int32)), .val (.ref b16), .unset] [(.int x1)]))
    refine zq_go (fun _ k => XS.iload X19.here hx rfl (hb hby at_50) rfl k) ?_
    show zq_Go p e below s _ _ _ (T19.setTop (mkF m 52 #[.val (.int x0), .val (.int x1), .val (.int x2), .val (.int x3), .val (.int x4), .val (.int (3 : Int32)), .val (.ref b16), .unset] [(.int x4), (.int x1)]))
    obtain ⟨T20, X20, e20, st20⟩ := zq_callP (W := 0) X19 hx hZ hown (hw _ (List.mem_of_getElem? (i := 5) rfl)) (hw _ (List.mem_of_getElem? (i := 6) rfl)) (hw _ (List.mem_of_getElem? (i := 7) rfl)) (hw _ (List.mem_of_getElem? (i := 8) rfl)) (by decide) (zq_rmI l Z a0 hw [] x1 x4 h19) e19 (by decide) (by decide) rfl rfl (by decide) (by decide) (g := (mkF m 52 #[.val (.int x0), .val (.int x1), .val (.int x2), .val (.int x3), .val (.int x4), .val (.int (3 : Int32)), .val (.ref b16), .unset] [(.int x4), (.int x1)])) rfl (by rw [hml]; rfl) (argsL := [(.int x1), (.int x4)]) (rest := []) (lenOf zq_pd3 rfl) rfl (by show 2 * 0 + _ ≤ _; exact Nat.le_of_eq rfl) (hb hby at_52)
    refine zq_go st20 ?_
    show zq_Go p e below s _ _ _ (T20.setTop (mkF m 55 #[.val (.int x0), .val (.int x1), .val (.int x2), .val (.int x3), .val (.int x4), .val (.int (3 : Int32)), .val (.ref b16), .unset] [(.int (zq_in x1 x4))]))
    by_cases hc55 : (zq_in x1 x4) = (0 : Int32)
    ·
      refine zq_go (fun _ k => XS.ifYes X20.here hx rfl (pc0 := 55) (pc' := 92) rfl (hb hby at_55) rfl ((if0 _ _).trans (teq hc55).1) (by decide) (by decide) k) ?_
      show zq_Go p e below s _ _ _ (T20.setTop (mkF m 92 #[.val (.int x0), .val (.int x1), .val (.int x2), .val (.int x3), .val (.int x4), .val (.int (3 : Int32)), .val (.ref b16), .unset] []))
      refine zq_go (fun _ k => XS.iconst X20.here hx rfl (hb hby at_92) k) ?_
      show zq_Go p e below s _ _ _ (T20.setTop (mkF m 93 #[.val (.int x0), .val (.int x1), .val (.int x2), .val (.int x3), .val (.int x4), .val (.int (3 : Int32)), .val (.ref b16), .unset] [(.int (0 : Int32))]))
      refine zq_go (fun _ k => XS.istore X20.here hx rfl (hb hby at_93) rfl (l' := #[.val (.int x0), .val (.int x1), .val (.int x2), .val (.int x3), .val (.int x4), .val (.int (3 : Int32)), .val (.ref b16), .val (.int (0 : Int32))]) rfl k) ?_
      show zq_Go p e below s _ _ _ (T20.setTop (mkF m 95 #[.val (.int x0), .val (.int x1), .val (.int x2), .val (.int x3), .val (.int x4), .val (.int (3 : Int32)), .val (.ref b16), .val (.int (0 : Int32))] []))
      refine zq_go (fun _ k => XS.aload X20.here hx rfl (hb hby at_95) rfl rfl k) ?_
      show zq_Go p e below s _ _ _ (T20.setTop (mkF m 97 #[.val (.int x0), .val (.int x1), .val (.int x2), .val (.int x3), .val (.int x4), .val (.int (3 : Int32)), .val (.ref b16), .val (.int (0 : Int32))] [(.ref b16)]))
      refine zq_go (fun _ k => XS.iload X20.here hx rfl (hb hby at_97) rfl k) ?_
      show zq_Go p e below s _ _ _ (T20.setTop (mkF m 99 #[.val (.int x0), .val (.int x1), .val (.int x2), .val (.int x3), .val (.int x4), .val (.int (3 : Int32)), .val (.ref b16), .val (.int (0 : Int32))] [(.int x4), (.ref b16)]))
      obtain ⟨T21, X21, e21, st21⟩ := zq_callP (W := 0) X20 hx hZ hown (hw _ (List.mem_of_getElem? (i := 1) rfl)) (hw _ (List.mem_of_getElem? (i := 2) rfl)) (hw _ (List.mem_of_getElem? (i := 3) rfl)) (hw _ (List.mem_of_getElem? (i := 4) rfl)) (by decide) (zq_rmA l Z a0 hw [] b16 x4 h19 3 (fun k => ([x1, x2, x3] : List Int32).getD k 0) A_b16 (by decide)) e20 (by decide) (by decide) rfl rfl (by decide) (by decide) (g := (mkF m 99 #[.val (.int x0), .val (.int x1), .val (.int x2), .val (.int x3), .val (.int x4), .val (.int (3 : Int32)), .val (.ref b16), .val (.int (0 : Int32))] [(.int x4), (.ref b16)])) rfl (by rw [hml]; rfl) (argsL := [(.ref b16), (.int x4)]) (rest := []) (lenOf zq_pd2 rfl) rfl (by show 2 * 0 + _ ≤ _; exact Nat.le_of_eq rfl) (hb hby at_99)
      refine zq_go st21 ?_
      show zq_Go p e below s _ _ _ (T21.setTop (mkF m 102 #[.val (.int x0), .val (.int x1), .val (.int x2), .val (.int x3), .val (.int x4), .val (.int (3 : Int32)), .val (.ref b16), .val (.int (0 : Int32))] [(.int (zq_all (fun k => ([x1, x2, x3] : List Int32).getD k 0) x4 3 0))]))
      refine zq_go (fun _ k => XS.iload X21.here hx rfl (hb hby at_102) rfl k) ?_
      show zq_Go p e below s _ _ _ (T21.setTop (mkF m 104 #[.val (.int x0), .val (.int x1), .val (.int x2), .val (.int x3), .val (.int x4), .val (.int (3 : Int32)), .val (.ref b16), .val (.int (0 : Int32))] [(.int (0 : Int32)), (.int (zq_all (fun k => ([x1, x2, x3] : List Int32).getD k 0) x4 3 0))]))
      refine zq_go (fun _ k => XS.icmpNo X21.here hx rfl (hb hby at_104) rfl (teq (by show (if zq_in x1 x4 = 0 then (0 : Int32) else (if zq_in x2 x4 = 0 then (0 : Int32) else (if zq_in x3 x4 = 0 then (0 : Int32) else (1 : Int32)))) = _; rw [if_pos hc55] : (zq_all (fun k => ([x1, x2, x3] : List Int32).getD k 0) x4 3 0) = (0 : Int32))).2 k) ?_
      show zq_Go p e below s _ _ _ (T21.setTop (mkF m 107 #[.val (.int x0), .val (.int x1), .val (.int x2), .val (.int x3), .val (.int x4), .val (.int (3 : Int32)), .val (.ref b16), .val (.int (0 : Int32))] []))
      refine zq_go (fun _ k => XS.iconst X21.here hx rfl (hb hby at_107) k) ?_
      show zq_Go p e below s _ _ _ (T21.setTop (mkF m 108 #[.val (.int x0), .val (.int x1), .val (.int x2), .val (.int x3), .val (.int x4), .val (.int (3 : Int32)), .val (.ref b16), .val (.int (0 : Int32))] [(.int (1 : Int32))]))
      refine zq_go (fun _ k => XS.goto X21.here hx rfl (pc0 := 108) (pc' := 112) rfl (hb hby at_108) (by decide) (by decide) k) ?_
      show zq_Go p e below s _ _ _ (T21.setTop (mkF m 112 #[.val (.int x0), .val (.int x1), .val (.int x2), .val (.int x3), .val (.int x4), .val (.int (3 : Int32)), .val (.ref b16), .val (.int (0 : Int32))] [(.int (1 : Int32))]))
      exact zq_retN X21 hx hlk (t := .boolean) hret (by simp) (hb hby at_112) ⟨rfl, NF⟩ (by decide) (by decide)
    refine zq_go (fun _ k => XS.ifNo X20.here hx rfl (hb hby at_55) rfl ((if0 _ _).trans (feq hc55).1) k) ?_
    show zq_Go p e below s _ _ _ (T20.setTop (mkF m 58 #[.val (.int x0), .val (.int x1), .val (.int x2), .val (.int x3), .val (.int x4), .val (.int (3 : Int32)), .val (.ref b16), .unset] []))
    refine zq_go (fun _ k => XS.iload X20.here hx rfl (hb hby at_58) rfl k) ?_
    show zq_Go p e below s _ _ _ (T20.setTop (mkF m 60 #[.val (.int x0), .val (.int x1), .val (.int x2), .val (.int x3), .val (.int x4), .val (.int (3 : Int32)), .val (.ref b16), .unset] [(.int (3 : Int32))]))
    refine zq_go (fun _ k => XS.iconst X20.here hx rfl (hb hby at_60) k) ?_
    show zq_Go p e below s _ _ _ (T20.setTop (mkF m 61 #[.val (.int x0), .val (.int x1), .val (.int x2), .val (.int x3), .val (.int x4), .val (.int (3 : Int32)), .val (.ref b16), .unset] [(.int (2 : Int32)), (.int (3 : Int32))]))
    refine zq_go (fun _ k => XS.icmpNo X20.here hx rfl (hb hby at_61) rfl (flt (by decide : ¬ ((3 : Int32) < (2 : Int32)))).1 k) ?_
    show zq_Go p e below s _ _ _ (T20.setTop (mkF m 64 #[.val (.int x0), .val (.int x1), .val (.int x2), .val (.int x3), .val (.int x4), .val (.int (3 : Int32)), .val (.ref b16), .unset] []))
    refine zq_go (fun _ k => XS.iloadN X20.here hx rfl (hb hby at_64) rfl k) ?_
    show zq_Go p e below s _ _ _ (T20.setTop (mkF m 65 #[.val (.int x0), .val (.int x1), .val (.int x2), .val (.int x3), .val (.int x4), .val (.int (3 : Int32)), .val (.ref b16), .unset] [(.int x2)]))
    refine zq_go (fun _ k => XS.iload X20.here hx rfl (hb hby at_65) rfl k) ?_
    show zq_Go p e below s _ _ _ (T20.setTop (mkF m 67 #[.val (.int x0), .val (.int x1), .val (.int x2), .val (.int x3), .val (.int x4), .val (.int (3 : Int32)), .val (.ref b16), .unset] [(.int x4), (.int x2)]))
    obtain ⟨T22, X22, e22, st22⟩ := zq_callP (W := 0) X20 hx hZ hown (hw _ (List.mem_of_getElem? (i := 5) rfl)) (hw _ (List.mem_of_getElem? (i := 6) rfl)) (hw _ (List.mem_of_getElem? (i := 7) rfl)) (hw _ (List.mem_of_getElem? (i := 8) rfl)) (by decide) (zq_rmI l Z a0 hw [] x2 x4 h19) e20 (by decide) (by decide) rfl rfl (by decide) (by decide) (g := (mkF m 67 #[.val (.int x0), .val (.int x1), .val (.int x2), .val (.int x3), .val (.int x4), .val (.int (3 : Int32)), .val (.ref b16), .unset] [(.int x4), (.int x2)])) rfl (by rw [hml]; rfl) (argsL := [(.int x2), (.int x4)]) (rest := []) (lenOf zq_pd3 rfl) rfl (by show 2 * 0 + _ ≤ _; exact Nat.le_of_eq rfl) (hb hby at_67)
    refine zq_go st22 ?_
    show zq_Go p e below s _ _ _ (T22.setTop (mkF m 70 #[.val (.int x0), .val (.int x1), .val (.int x2), .val (.int x3), .val (.int x4), .val (.int (3 : Int32)), .val (.ref b16), .unset] [(.int (zq_in x2 x4))]))
    by_cases hc70 : (zq_in x2 x4) = (0 : Int32)
    ·
      refine zq_go (fun _ k => XS.ifYes X22.here hx rfl (pc0 := 70) (pc' := 92) rfl (hb hby at_70) rfl ((if0 _ _).trans (teq hc70).1) (by decide) (by decide) k) ?_
      show zq_Go p e below s _ _ _ (T22.setTop (mkF m 92 #[.val (.int x0), .val (.int x1), .val (.int x2), .val (.int x3), .val (.int x4), .val (.int (3 : Int32)), .val (.ref b16), .unset] []))
      refine zq_go (fun _ k => XS.iconst X22.here hx rfl (hb hby at_92) k) ?_
      show zq_Go p e below s _ _ _ (T22.setTop (mkF m 93 #[.val (.int x0), .val (.int x1), .val (.int x2), .val (.int x3), .val (.int x4), .val (.int (3 : Int32)), .val (.ref b16), .unset] [(.int (0 : Int32))]))
      refine zq_go (fun _ k => XS.istore X22.here hx rfl (hb hby at_93) rfl (l' := #[.val (.int x0), .val (.int x1), .val (.int x2), .val (.int x3), .val (.int x4), .val (.int (3 : Int32)), .val (.ref b16), .val (.int (0 : Int32))]) rfl k) ?_
      show zq_Go p e below s _ _ _ (T22.setTop (mkF m 95 #[.val (.int x0), .val (.int x1), .val (.int x2), .val (.int x3), .val (.int x4), .val (.int (3 : Int32)), .val (.ref b16), .val (.int (0 : Int32))] []))
      refine zq_go (fun _ k => XS.aload X22.here hx rfl (hb hby at_95) rfl rfl k) ?_
      show zq_Go p e below s _ _ _ (T22.setTop (mkF m 97 #[.val (.int x0), .val (.int x1), .val (.int x2), .val (.int x3), .val (.int x4), .val (.int (3 : Int32)), .val (.ref b16), .val (.int (0 : Int32))] [(.ref b16)]))
      refine zq_go (fun _ k => XS.iload X22.here hx rfl (hb hby at_97) rfl k) ?_
      show zq_Go p e below s _ _ _ (T22.setTop (mkF m 99 #[.val (.int x0), .val (.int x1), .val (.int x2), .val (.int x3), .val (.int x4), .val (.int (3 : Int32)), .val (.ref b16), .val (.int (0 : Int32))] [(.int x4), (.ref b16)]))
      obtain ⟨T23, X23, e23, st23⟩ := zq_callP (W := 0) X22 hx hZ hown (hw _ (List.mem_of_getElem? (i := 1) rfl)) (hw _ (List.mem_of_getElem? (i := 2) rfl)) (hw _ (List.mem_of_getElem? (i := 3) rfl)) (hw _ (List.mem_of_getElem? (i := 4) rfl)) (by decide) (zq_rmA l Z a0 hw [] b16 x4 h19 3 (fun k => ([x1, x2, x3] : List Int32).getD k 0) A_b16 (by decide)) e22 (by decide) (by decide) rfl rfl (by decide) (by decide) (g := (mkF m 99 #[.val (.int x0), .val (.int x1), .val (.int x2), .val (.int x3), .val (.int x4), .val (.int (3 : Int32)), .val (.ref b16), .val (.int (0 : Int32))] [(.int x4), (.ref b16)])) rfl (by rw [hml]; rfl) (argsL := [(.ref b16), (.int x4)]) (rest := []) (lenOf zq_pd2 rfl) rfl (by show 2 * 0 + _ ≤ _; exact Nat.le_of_eq rfl) (hb hby at_99)
      refine zq_go st23 ?_
      show zq_Go p e below s _ _ _ (T23.setTop (mkF m 102 #[.val (.int x0), .val (.int x1), .val (.int x2), .val (.int x3), .val (.int x4), .val (.int (3 : Int32)), .val (.ref b16), .val (.int (0 : Int32))] [(.int (zq_all (fun k => ([x1, x2, x3] : List Int32).getD k 0) x4 3 0))]))
      refine zq_go (fun _ k => XS.iload X23.here hx rfl (hb hby at_102) rfl k) ?_
      show zq_Go p e below s _ _ _ (T23.setTop (mkF m 104 #[.val (.int x0), .val (.int x1), .val (.int x2), .val (.int x3), .val (.int x4), .val (.int (3 : Int32)), .val (.ref b16), .val (.int (0 : Int32))] [(.int (0 : Int32)), (.int (zq_all (fun k => ([x1, x2, x3] : List Int32).getD k 0) x4 3 0))]))
      refine zq_go (fun _ k => XS.icmpNo X23.here hx rfl (hb hby at_104) rfl (teq (by show (if zq_in x1 x4 = 0 then (0 : Int32) else (if zq_in x2 x4 = 0 then (0 : Int32) else (if zq_in x3 x4 = 0 then (0 : Int32) else (1 : Int32)))) = _; rw [if_neg hc55, if_pos hc70] : (zq_all (fun k => ([x1, x2, x3] : List Int32).getD k 0) x4 3 0) = (0 : Int32))).2 k) ?_
      show zq_Go p e below s _ _ _ (T23.setTop (mkF m 107 #[.val (.int x0), .val (.int x1), .val (.int x2), .val (.int x3), .val (.int x4), .val (.int (3 : Int32)), .val (.ref b16), .val (.int (0 : Int32))] []))
      refine zq_go (fun _ k => XS.iconst X23.here hx rfl (hb hby at_107) k) ?_
      show zq_Go p e below s _ _ _ (T23.setTop (mkF m 108 #[.val (.int x0), .val (.int x1), .val (.int x2), .val (.int x3), .val (.int x4), .val (.int (3 : Int32)), .val (.ref b16), .val (.int (0 : Int32))] [(.int (1 : Int32))]))
      refine zq_go (fun _ k => XS.goto X23.here hx rfl (pc0 := 108) (pc' := 112) rfl (hb hby at_108) (by decide) (by decide) k) ?_
      show zq_Go p e below s _ _ _ (T23.setTop (mkF m 112 #[.val (.int x0), .val (.int x1), .val (.int x2), .val (.int x3), .val (.int x4), .val (.int (3 : Int32)), .val (.ref b16), .val (.int (0 : Int32))] [(.int (1 : Int32))]))
      exact zq_retN X23 hx hlk (t := .boolean) hret (by simp) (hb hby at_112) ⟨rfl, NF⟩ (by decide) (by decide)
    refine zq_go (fun _ k => XS.ifNo X22.here hx rfl (hb hby at_70) rfl ((if0 _ _).trans (feq hc70).1) k) ?_
    show zq_Go p e below s _ _ _ (T22.setTop (mkF m 73 #[.val (.int x0), .val (.int x1), .val (.int x2), .val (.int x3), .val (.int x4), .val (.int (3 : Int32)), .val (.ref b16), .unset] []))
    refine zq_go (fun _ k => XS.iload X22.here hx rfl (hb hby at_73) rfl k) ?_
    show zq_Go p e below s _ _ _ (T22.setTop (mkF m 75 #[.val (.int x0), .val (.int x1), .val (.int x2), .val (.int x3), .val (.int x4), .val (.int (3 : Int32)), .val (.ref b16), .unset] [(.int (3 : Int32))]))
    refine zq_go (fun _ k => XS.iconst X22.here hx rfl (hb hby at_75) k) ?_
    show zq_Go p e below s _ _ _ (T22.setTop (mkF m 76 #[.val (.int x0), .val (.int x1), .val (.int x2), .val (.int x3), .val (.int x4), .val (.int (3 : Int32)), .val (.ref b16), .unset] [(.int (3 : Int32)), (.int (3 : Int32))]))
    refine zq_go (fun _ k => XS.icmpNo X22.here hx rfl (hb hby at_76) rfl (flt (by decide : ¬ ((3 : Int32) < (3 : Int32)))).1 k) ?_
    show zq_Go p e below s _ _ _ (T22.setTop (mkF m 79 #[.val (.int x0), .val (.int x1), .val (.int x2), .val (.int x3), .val (.int x4), .val (.int (3 : Int32)), .val (.ref b16), .unset] []))
    refine zq_go (fun _ k => XS.iloadN X22.here hx rfl (hb hby at_79) rfl k) ?_
    show zq_Go p e below s _ _ _ (T22.setTop (mkF m 80 #[.val (.int x0), .val (.int x1), .val (.int x2), .val (.int x3), .val (.int x4), .val (.int (3 : Int32)), .val (.ref b16), .unset] [(.int x3)]))
    refine zq_go (fun _ k => XS.iload X22.here hx rfl (hb hby at_80) rfl k) ?_
    show zq_Go p e below s _ _ _ (T22.setTop (mkF m 82 #[.val (.int x0), .val (.int x1), .val (.int x2), .val (.int x3), .val (.int x4), .val (.int (3 : Int32)), .val (.ref b16), .unset] [(.int x4), (.int x3)]))
    obtain ⟨T24, X24, e24, st24⟩ := zq_callP (W := 0) X22 hx hZ hown (hw _ (List.mem_of_getElem? (i := 5) rfl)) (hw _ (List.mem_of_getElem? (i := 6) rfl)) (hw _ (List.mem_of_getElem? (i := 7) rfl)) (hw _ (List.mem_of_getElem? (i := 8) rfl)) (by decide) (zq_rmI l Z a0 hw [] x3 x4 h19) e22 (by decide) (by decide) rfl rfl (by decide) (by decide) (g := (mkF m 82 #[.val (.int x0), .val (.int x1), .val (.int x2), .val (.int x3), .val (.int x4), .val (.int (3 : Int32)), .val (.ref b16), .unset] [(.int x4), (.int x3)])) rfl (by rw [hml]; rfl) (argsL := [(.int x3), (.int x4)]) (rest := []) (lenOf zq_pd3 rfl) rfl (by show 2 * 0 + _ ≤ _; exact Nat.le_of_eq rfl) (hb hby at_82)
    refine zq_go st24 ?_
    show zq_Go p e below s _ _ _ (T24.setTop (mkF m 85 #[.val (.int x0), .val (.int x1), .val (.int x2), .val (.int x3), .val (.int x4), .val (.int (3 : Int32)), .val (.ref b16), .unset] [(.int (zq_in x3 x4))]))
    by_cases hc85 : (zq_in x3 x4) = (0 : Int32)
    ·
      refine zq_go (fun _ k => XS.ifYes X24.here hx rfl (pc0 := 85) (pc' := 92) rfl (hb hby at_85) rfl ((if0 _ _).trans (teq hc85).1) (by decide) (by decide) k) ?_
      show zq_Go p e below s _ _ _ (T24.setTop (mkF m 92 #[.val (.int x0), .val (.int x1), .val (.int x2), .val (.int x3), .val (.int x4), .val (.int (3 : Int32)), .val (.ref b16), .unset] []))
      refine zq_go (fun _ k => XS.iconst X24.here hx rfl (hb hby at_92) k) ?_
      show zq_Go p e below s _ _ _ (T24.setTop (mkF m 93 #[.val (.int x0), .val (.int x1), .val (.int x2), .val (.int x3), .val (.int x4), .val (.int (3 : Int32)), .val (.ref b16), .unset] [(.int (0 : Int32))]))
      refine zq_go (fun _ k => XS.istore X24.here hx rfl (hb hby at_93) rfl (l' := #[.val (.int x0), .val (.int x1), .val (.int x2), .val (.int x3), .val (.int x4), .val (.int (3 : Int32)), .val (.ref b16), .val (.int (0 : Int32))]) rfl k) ?_
      show zq_Go p e below s _ _ _ (T24.setTop (mkF m 95 #[.val (.int x0), .val (.int x1), .val (.int x2), .val (.int x3), .val (.int x4), .val (.int (3 : Int32)), .val (.ref b16), .val (.int (0 : Int32))] []))
      refine zq_go (fun _ k => XS.aload X24.here hx rfl (hb hby at_95) rfl rfl k) ?_
      show zq_Go p e below s _ _ _ (T24.setTop (mkF m 97 #[.val (.int x0), .val (.int x1), .val (.int x2), .val (.int x3), .val (.int x4), .val (.int (3 : Int32)), .val (.ref b16), .val (.int (0 : Int32))] [(.ref b16)]))
      refine zq_go (fun _ k => XS.iload X24.here hx rfl (hb hby at_97) rfl k) ?_
      show zq_Go p e below s _ _ _ (T24.setTop (mkF m 99 #[.val (.int x0), .val (.int x1), .val (.int x2), .val (.int x3), .val (.int x4), .val (.int (3 : Int32)), .val (.ref b16), .val (.int (0 : Int32))] [(.int x4), (.ref b16)]))
      obtain ⟨T25, X25, e25, st25⟩ := zq_callP (W := 0) X24 hx hZ hown (hw _ (List.mem_of_getElem? (i := 1) rfl)) (hw _ (List.mem_of_getElem? (i := 2) rfl)) (hw _ (List.mem_of_getElem? (i := 3) rfl)) (hw _ (List.mem_of_getElem? (i := 4) rfl)) (by decide) (zq_rmA l Z a0 hw [] b16 x4 h19 3 (fun k => ([x1, x2, x3] : List Int32).getD k 0) A_b16 (by decide)) e24 (by decide) (by decide) rfl rfl (by decide) (by decide) (g := (mkF m 99 #[.val (.int x0), .val (.int x1), .val (.int x2), .val (.int x3), .val (.int x4), .val (.int (3 : Int32)), .val (.ref b16), .val (.int (0 : Int32))] [(.int x4), (.ref b16)])) rfl (by rw [hml]; rfl) (argsL := [(.ref b16), (.int x4)]) (rest := []) (lenOf zq_pd2 rfl) rfl (by show 2 * 0 + _ ≤ _; exact Nat.le_of_eq rfl) (hb hby at_99)
      refine zq_go st25 ?_
      show zq_Go p e below s _ _ _ (T25.setTop (mkF m 102 #[.val (.int x0), .val (.int x1), .val (.int x2), .val (.int x3), .val (.int x4), .val (.int (3 : Int32)), .val (.ref b16), .val (.int (0 : Int32))] [(.int (zq_all (fun k => ([x1, x2, x3] : List Int32).getD k 0) x4 3 0))]))
      refine zq_go (fun _ k => XS.iload X25.here hx rfl (hb hby at_102) rfl k) ?_
      show zq_Go p e below s _ _ _ (T25.setTop (mkF m 104 #[.val (.int x0), .val (.int x1), .val (.int x2), .val (.int x3), .val (.int x4), .val (.int (3 : Int32)), .val (.ref b16), .val (.int (0 : Int32))] [(.int (0 : Int32)), (.int (zq_all (fun k => ([x1, x2, x3] : List Int32).getD k 0) x4 3 0))]))
      refine zq_go (fun _ k => XS.icmpNo X25.here hx rfl (hb hby at_104) rfl (teq (by show (if zq_in x1 x4 = 0 then (0 : Int32) else (if zq_in x2 x4 = 0 then (0 : Int32) else (if zq_in x3 x4 = 0 then (0 : Int32) else (1 : Int32)))) = _; rw [if_neg hc55, if_neg hc70, if_pos hc85] : (zq_all (fun k => ([x1, x2, x3] : List Int32).getD k 0) x4 3 0) = (0 : Int32))).2 k) ?_
      show zq_Go p e below s _ _ _ (T25.setTop (mkF m 107 #[.val (.int x0), .val (.int x1), .val (.int x2), .val (.int x3), .val (.int x4), .val (.int (3 : Int32)), .val (.ref b16), .val (.int (0 : Int32))] []))
      refine zq_go (fun _ k => XS.iconst X25.here hx rfl (hb hby at_107) k) ?_
      show zq_Go p e below s _ _ _ (T25.setTop (mkF m 108 #[.val (.int x0), .val (.int x1), .val (.int x2), .val (.int x3), .val (.int x4), .val (.int (3 : Int32)), .val (.ref b16), .val (.int (0 : Int32))] [(.int (1 : Int32))]))
      refine zq_go (fun _ k => XS.goto X25.here hx rfl (pc0 := 108) (pc' := 112) rfl (hb hby at_108) (by decide) (by decide) k) ?_
      show zq_Go p e below s _ _ _ (T25.setTop (mkF m 112 #[.val (.int x0), .val (.int x1), .val (.int x2), .val (.int x3), .val (.int x4), .val (.int (3 : Int32)), .val (.ref b16), .val (.int (0 : Int32))] [(.int (1 : Int32))]))
      exact zq_retN X25 hx hlk (t := .boolean) hret (by simp) (hb hby at_112) ⟨rfl, NF⟩ (by decide) (by decide)
    refine zq_go (fun _ k => XS.ifNo X24.here hx rfl (hb hby at_85) rfl ((if0 _ _).trans (feq hc85).1) k) ?_
    show zq_Go p e below s _ _ _ (T24.setTop (mkF m 88 #[.val (.int x0), .val (.int x1), .val (.int x2), .val (.int x3), .val (.int x4), .val (.int (3 : Int32)), .val (.ref b16), .unset] []))
    refine zq_go (fun _ k => XS.iconst X24.here hx rfl (hb hby at_88) k) ?_
    show zq_Go p e below s _ _ _ (T24.setTop (mkF m 89 #[.val (.int x0), .val (.int x1), .val (.int x2), .val (.int x3), .val (.int x4), .val (.int (3 : Int32)), .val (.ref b16), .unset] [(.int (1 : Int32))]))
    refine zq_go (fun _ k => XS.goto X24.here hx rfl (pc0 := 89) (pc' := 93) rfl (hb hby at_89) (by decide) (by decide) k) ?_
    show zq_Go p e below s _ _ _ (T24.setTop (mkF m 93 #[.val (.int x0), .val (.int x1), .val (.int x2), .val (.int x3), .val (.int x4), .val (.int (3 : Int32)), .val (.ref b16), .unset] [(.int (1 : Int32))]))
    refine zq_go (fun _ k => XS.istore X24.here hx rfl (hb hby at_93) rfl (l' := #[.val (.int x0), .val (.int x1), .val (.int x2), .val (.int x3), .val (.int x4), .val (.int (3 : Int32)), .val (.ref b16), .val (.int (1 : Int32))]) rfl k) ?_
    show zq_Go p e below s _ _ _ (T24.setTop (mkF m 95 #[.val (.int x0), .val (.int x1), .val (.int x2), .val (.int x3), .val (.int x4), .val (.int (3 : Int32)), .val (.ref b16), .val (.int (1 : Int32))] []))
    refine zq_go (fun _ k => XS.aload X24.here hx rfl (hb hby at_95) rfl rfl k) ?_
    show zq_Go p e below s _ _ _ (T24.setTop (mkF m 97 #[.val (.int x0), .val (.int x1), .val (.int x2), .val (.int x3), .val (.int x4), .val (.int (3 : Int32)), .val (.ref b16), .val (.int (1 : Int32))] [(.ref b16)]))
    refine zq_go (fun _ k => XS.iload X24.here hx rfl (hb hby at_97) rfl k) ?_
    show zq_Go p e below s _ _ _ (T24.setTop (mkF m 99 #[.val (.int x0), .val (.int x1), .val (.int x2), .val (.int x3), .val (.int x4), .val (.int (3 : Int32)), .val (.ref b16), .val (.int (1 : Int32))] [(.int x4), (.ref b16)]))
    obtain ⟨T26, X26, e26, st26⟩ := zq_callP (W := 0) X24 hx hZ hown (hw _ (List.mem_of_getElem? (i := 1) rfl)) (hw _ (List.mem_of_getElem? (i := 2) rfl)) (hw _ (List.mem_of_getElem? (i := 3) rfl)) (hw _ (List.mem_of_getElem? (i := 4) rfl)) (by decide) (zq_rmA l Z a0 hw [] b16 x4 h19 3 (fun k => ([x1, x2, x3] : List Int32).getD k 0) A_b16 (by decide)) e24 (by decide) (by decide) rfl rfl (by decide) (by decide) (g := (mkF m 99 #[.val (.int x0), .val (.int x1), .val (.int x2), .val (.int x3), .val (.int x4), .val (.int (3 : Int32)), .val (.ref b16), .val (.int (1 : Int32))] [(.int x4), (.ref b16)])) rfl (by rw [hml]; rfl) (argsL := [(.ref b16), (.int x4)]) (rest := []) (lenOf zq_pd2 rfl) rfl (by show 2 * 0 + _ ≤ _; exact Nat.le_of_eq rfl) (hb hby at_99)
    refine zq_go st26 ?_
    show zq_Go p e below s _ _ _ (T26.setTop (mkF m 102 #[.val (.int x0), .val (.int x1), .val (.int x2), .val (.int x3), .val (.int x4), .val (.int (3 : Int32)), .val (.ref b16), .val (.int (1 : Int32))] [(.int (zq_all (fun k => ([x1, x2, x3] : List Int32).getD k 0) x4 3 0))]))
    refine zq_go (fun _ k => XS.iload X26.here hx rfl (hb hby at_102) rfl k) ?_
    show zq_Go p e below s _ _ _ (T26.setTop (mkF m 104 #[.val (.int x0), .val (.int x1), .val (.int x2), .val (.int x3), .val (.int x4), .val (.int (3 : Int32)), .val (.ref b16), .val (.int (1 : Int32))] [(.int (1 : Int32)), (.int (zq_all (fun k => ([x1, x2, x3] : List Int32).getD k 0) x4 3 0))]))
    refine zq_go (fun _ k => XS.icmpNo X26.here hx rfl (hb hby at_104) rfl (teq (by show (if zq_in x1 x4 = 0 then (0 : Int32) else (if zq_in x2 x4 = 0 then (0 : Int32) else (if zq_in x3 x4 = 0 then (0 : Int32) else (1 : Int32)))) = _; rw [if_neg hc55, if_neg hc70, if_neg hc85] : (zq_all (fun k => ([x1, x2, x3] : List Int32).getD k 0) x4 3 0) = (1 : Int32))).2 k) ?_
    show zq_Go p e below s _ _ _ (T26.setTop (mkF m 107 #[.val (.int x0), .val (.int x1), .val (.int x2), .val (.int x3), .val (.int x4), .val (.int (3 : Int32)), .val (.ref b16), .val (.int (1 : Int32))] []))
    refine zq_go (fun _ k => XS.iconst X26.here hx rfl (hb hby at_107) k) ?_
    show zq_Go p e below s _ _ _ (T26.setTop (mkF m 108 #[.val (.int x0), .val (.int x1), .val (.int x2), .val (.int x3), .val (.int x4), .val (.int (3 : Int32)), .val (.ref b16), .val (.int (1 : Int32))] [(.int (1 : Int32))]))
    refine zq_go (fun _ k => XS.goto X26.here hx rfl (pc0 := 108) (pc' := 112) rfl (hb hby at_108) (by decide) (by decide) k) ?_
    show zq_Go p e below s _ _ _ (T26.setTop (mkF m 112 #[.val (.int x0), .val (.int x1), .val (.int x2), .val (.int x3), .val (.int x4), .val (.int (3 : Int32)), .val (.ref b16), .val (.int (1 : Int32))] [(.int (1 : Int32))]))
    exact zq_retN X26 hx hlk (t := .boolean) hret (by simp) (hb hby at_112) ⟨rfl, NF⟩ (by decide) (by decide)
set_option maxRecDepth 65536 in
set_option maxHeartbeats 40000000 in
theorem zq_comes {Post : Tables → Env → Array Value → State → Outcome → State → Prop} (hpost : ∀ tb e args s v u, (limb_1_1.after args s (.returned v) u = true ∧ limb_1_2.after args s (.returned v) u = true ∧ True) → FrameEnd s (.returned v) u (Jvm.fieldLocs frame_1_writes args s ++ Jvm.arrayLocs frame_1_arrays args s ++ Jvm.staticLocs frame_1_statics s) 16 128 → Post tb e args s (.returned v) u) :
    ArmFor flags0 classFile x code maxLocals ret World_1 tables_1 room_1 Calls_1 rest_1 Pre_1 Post := by
  intro l hfl _ _ p e ha hc hk s m args below hf hA hF happ hP
  obtain ⟨hcalls, hrest, hpre⟩ := hP
  obtain ⟨-, -, -, hnamed, -, -, -, hat⟩ := (Spec.applies_iff hf).mp happ
  obtain ⟨hg, hn⟩ := and_e (Cond.before_iff.mp (show (Jvm.Cond.and given_1 narrow_1).before args s = true from hpre))
  obtain ⟨g0, t0⟩ := and_e hg
  obtain ⟨g1, t1⟩ := and_e t0
  obtain ⟨g2, t2⟩ := and_e t1
  obtain ⟨g3, t3⟩ := and_e t2
  obtain ⟨g4, t4⟩ := and_e t3
  obtain ⟨w0, w1, w2, w3, w4, rfl⟩ : ∃ w0 w1 w2 w3 w4 : Value, args = #[w0, w1, w2, w3, w4] := by
    have hs : args.size = 5 := by simpa [Cond.value, given_1] using g0
    obtain ⟨L⟩ := args
    match L, hs with
    | [w0, w1, w2, w3, w4], _ => exact ⟨w0, w1, w2, w3, w4, rfl⟩
  have hw := fun d (hd : d ∈ tables_1) => atoms_spec (ws := Jvm.Cond.code x code maxLocals ret :: tables_1) hat d (List.mem_cons_of_mem _ hd)
  obtain ⟨i0, ei0⟩ := is_v g1
  obtain rfl : w0 = (.int i0) := Option.some.inj ei0
  obtain ⟨i1, ei1⟩ := is_v g2
  obtain rfl : w1 = (.int i1) := Option.some.inj ei1
  obtain ⟨i2, ei2⟩ := is_v g3
  obtain rfl : w2 = (.int i2) := Option.some.inj ei2
  obtain ⟨i3, ei3⟩ := is_v g4
  obtain rfl : w3 = (.int i3) := Option.some.inj ei3
  obtain ⟨i4, ei4⟩ := is_v t4
  obtain rfl : w4 = (.int i4) := Option.some.inj ei4
  obtain ⟨n, o, h1, h2, h3, _, L, rfl, ⟨rfl, N⟩, hq⟩ := zq_rm0 l s _ hw tables_1 i0 i1 i2 i3 i4 s.heap p e ha hc hk s m _ below hf ((Spec.applies_iff_loose hf).mp happ).1 ⟨rfl, State.Warmed39.refl s, rfl⟩ trivial
  refine ⟨n, _, h1, h2, h3, hpost _ _ _ _ _ _ ⟨Cond.after_iff.mpr rfl, Cond.after_iff.mpr (eq_i res_at (Term.int_eval (1)) rfl), trivial⟩ ⟨hq.1, hq.2.1, (hq.2.2.sift fun y hy => Or.inr (N y hy)).mono (by decide) (by decide)⟩⟩
theorem main_1_1 : Claimed_1_1 := zq_comes fun _ _ _ _ _ _ h hF => ⟨h.1, hF⟩
theorem main_1_2 : Claimed_1_2 := zq_comes fun _ _ _ _ _ _ h hF => ⟨h.2.1, hF⟩
end Jvm.Pilot.@@N@@
namespace Jvm.Pilot.@@N@@
open Jvm Jvm.ClassFile Sem Op Lib Jvm.Free Jvm.Stand Jvm.Pilot.@@N@@.Jvm.D
/-! MADE BY PROGRAM (witnessworld.py) out of the Statement's table words and the real class files: 9 classes; the members and pool entries that the words name. The judged class is class 1, her method 2. -/
namespace start1
open Jvm.ClassFile
def u (s : String) : CpInfo := .utf8 (stringToUtf16 s)
/-- a pool by its gaps: so many unusable entries, then the entry; so many at the end -/
def gap : Nat → List CpInfo → List CpInfo
  | 0, r => r
  | n + 1, r => .unusable :: gap n r
def poolList (es : List (Nat × CpInfo)) (last : Nat) : List CpInfo := es.foldr (fun e r => gap e.1 (e.2 :: r)) (gap last [])
def pool (es : List (Nat × CpInfo)) (last : Nat) : Array CpInfo := ⟨poolList es last⟩
def fileOf (pool : Array CpInfo) (this : Nat) (attrs : Array Attribute := #[]) (ms : Array MethodInfo := #[]) (fl : Nat := 33) (sup : Nat := 0) (ifs : Array Nat := #[]) (fds : Array FieldInfo := #[]) : ClassFile where
  minorVersion := 0
  majorVersion := 65
  constantPool := pool
  accessFlags := fl
  thisClass := this
  superClass := sup
  interfaces := ifs
  fields := fds
  methods := ms
  attributes := attrs
def plain (name : String) (sup : Option ClassId) : Class where
  name := name
  kind := .ordinary
  loader := none
  accessFlags := 33
  super := sup
  interfaces := #[]
  cf := none
  fields := #[]
  methods := #[]
  instanceTypes := #[]
  staticTypes := #[]
  resolved := #[]
  callSites := []
  init := .initialized
  statics := none
  mirror := none

def pool0 : Array CpInfo := pool [(5, u "<init>"), (0, u "()V"), (1, .class_ 10), (1, u "java/lang/Object")] 113

def k0m0 : Method := { name := "<init>", desc := "()V", sig := { parameters := [], returnType := none }, accessFlags := 1, code := none }
/-- java/lang/Object -/
def k0 : Class := { plain "java/lang/Object" none with
  accessFlags := 33
  interfaces := #[]
  cf := some (fileOf pool0 8 #[] #[{ accessFlags := 1, nameIndex := 5, descriptorIndex := 6, attributes := #[] }] 33 0 #[] #[])
  fields := #[]
  methods := #[k0m0]
  instanceTypes := #[]
  staticTypes := #[]
  resolved := Array.replicate 124 none
  statics := none }

def pool1 : Array CpInfo := pool [(2, .class_ 4), (1, u "java/lang/Object"), (0, u "<init>"), (0, u "()V"), (0, .methodref 8 9), (0, .class_ 10), (0, .nameAndType 11 12), (0, u "com/example/polyglyph/polyglyph/wire/PrimitiveArraysAllWithin375PinLaw"), (0, u "inRange"), (0, u "(II)Z"), (0, .methodref 14 15), (0, .class_ 16), (0, .nameAndType 17 18), (0, u "com/example/polyglyph/polyglyph/wire/PrimitiveArrays"), (0, u "allWithin"), (0, u "([II)Z"), (3, u "law"), (0, u "(IIIII)Z")] 4

def k1m0 : Method := { name := "<init>", desc := "()V", sig := { parameters := [], returnType := none }, accessFlags := 2, code := none }
def k1c1 : Code := { maxStack := 4, maxLocals := 6, code := method_2_code, exceptionTable := #[], attributes := #[] }
def k1m1 : Method := { name := "inRange", desc := "(II)Z", sig := { parameters := [.int, .int], returnType := some .boolean }, accessFlags := 10, code := some k1c1 }
def k1c2 : Code := { maxStack := 3, maxLocals := 8, code := code, exceptionTable := #[], attributes := #[] }
def k1m2 : Method := { name := "law", desc := "(IIIII)Z", sig := { parameters := [.int, .int, .int, .int, .int], returnType := some .boolean }, accessFlags := 9, code := some k1c2 }
/-- com/example/polyglyph/polyglyph/wire/PrimitiveArraysAllWithin375PinLaw -/
def k1 : Class := { plain "com/example/polyglyph/polyglyph/wire/PrimitiveArraysAllWithin375PinLaw" (some 0) with
  accessFlags := 49
  interfaces := #[]
  cf := some (fileOf pool1 8 #[] #[{ accessFlags := 2, nameIndex := 5, descriptorIndex := 6, attributes := #[] }, { accessFlags := 10, nameIndex := 11, descriptorIndex := 12, attributes := #[] }, { accessFlags := 9, nameIndex := 22, descriptorIndex := 23, attributes := #[] }] 49 2 #[] #[])
  fields := #[]
  methods := #[k1m0, k1m1, k1m2]
  instanceTypes := #[]
  staticTypes := #[]
  resolved := Array.replicate 28 none
  statics := none }

def pool2 : Array CpInfo := pool [(2, .class_ 4), (1, u "java/lang/Object"), (0, u "<init>"), (0, u "()V"), (33, .class_ 42), (1, u "com/example/polyglyph/polyglyph/wire/PrimitiveArrays"), (244, u "allWithin"), (0, u "([II)Z")] 18

def k2m0 : Method := { name := "<init>", desc := "()V", sig := { parameters := [], returnType := none }, accessFlags := 2, code := none }
def k2c1 : Code := { maxStack := 2, maxLocals := 6, code := prog_95_method_27_code, exceptionTable := #[], attributes := #[] }
def k2m1 : Method := { name := "allWithin", desc := "([II)Z", sig := { parameters := [(.array .int), .int], returnType := some .boolean }, accessFlags := 8, code := some k2c1 }
/-- com/example/polyglyph/polyglyph/wire/PrimitiveArrays -/
def k2 : Class := { plain "com/example/polyglyph/polyglyph/wire/PrimitiveArrays" (some 0) with
  accessFlags := 48
  interfaces := #[]
  cf := some (fileOf pool2 40 #[] #[{ accessFlags := 2, nameIndex := 5, descriptorIndex := 6, attributes := #[] }, { accessFlags := 8, nameIndex := 287, descriptorIndex := 288, attributes := #[] }] 48 2 #[] #[])
  fields := #[]
  methods := #[k2m0, k2m1]
  instanceTypes := #[]
  staticTypes := #[]
  resolved := Array.replicate 307 none
  statics := none }

def pool3 : Array CpInfo := pool [(1, u "java/lang/Cloneable"), (0, .class_ 1), (0, u "java/lang/Object"), (0, .class_ 3)] 3

/-- java/lang/Cloneable -/
def k3 : Class := { plain "java/lang/Cloneable" (some 0) with
  accessFlags := 1537
  interfaces := #[]
  cf := some (fileOf pool3 2 #[] #[] 1537 4 #[] #[])
  fields := #[]
  methods := #[]
  instanceTypes := #[]
  staticTypes := #[]
  resolved := Array.replicate 8 none
  statics := none }

def pool4 : Array CpInfo := pool [(1, u "java/io/Serializable"), (0, .class_ 1), (0, u "java/lang/Object"), (0, .class_ 3)] 3

/-- java/io/Serializable -/
def k4 : Class := { plain "java/io/Serializable" (some 0) with
  accessFlags := 1537
  interfaces := #[]
  cf := some (fileOf pool4 2 #[] #[] 1537 4 #[] #[])
  fields := #[]
  methods := #[]
  instanceTypes := #[]
  staticTypes := #[]
  resolved := Array.replicate 8 none
  statics := none }

/-- the primitive byte -/
def k5 : Class := { plain "byte" none with kind := .primitive 'B', accessFlags := 0x411 }
/-- [B -/
def k6 : Class := { plain "[B" (some 0) with kind := .array 5 .byte, interfaces := #[3, 4], accessFlags := 1041 }

/-- the primitive int -/
def k7 : Class := { plain "int" none with kind := .primitive 'I', accessFlags := 0x411 }
/-- [I -/
def k8 : Class := { plain "[I" (some 0) with kind := .array 7 .int, interfaces := #[3, 4], accessFlags := 1041 }

def heap : Heap := #[]
def classes : Array Class := #[k0, k1, k2, k3, k4, k5, k6, k7, k8]
def interned : List (Array UInt16 × Addr) := []
def slotsUsed : Nat := 0
def theMethod : MethodId := ⟨1, 2⟩
def args0 : Array Value := #[.int 1, .int 2, .int 3, .int 4, .int 5]
def aboutOver (below : List Frame) : State where
  vm := { classes := classes, interned := interned.toArray }
  heap := heap
  slotsUsed := slotsUsed
  threads := #[{ frames := .invoking theMethod args0 :: below }]
def below0 : List Frame := [.native { method := ⟨0, 0⟩, args := #[] }]
def about1 : State := aboutOver below0
def p0 : Program := .bare "" "" ""
def e0 : Env := launch0.env 0 0 0
theorem w_frames : about1.frames = Frame.invoking theMethod args0 :: below0 := rfl
set_option maxRecDepth 65536 in
theorem w_args : argsFit about1.vm theMethod args0 = true := by decide +kernel
set_option maxRecDepth 65536 in
theorem w_heap : heapFits about1 = true := by decide +kernel
set_option maxRecDepth 65536 in
theorem w_runnable : about1.curStatus? = some .runnable := by decide +kernel
set_option maxRecDepth 65536 in
theorem w_alone : about1.alone = true := by decide +kernel
set_option maxRecDepth 65536 in
theorem w_named : about1.methodNamed? x = some theMethod := by decide +kernel
set_option maxRecDepth 65536 in
theorem w_hears : about1.hears theMethod below0 = true := by decide +kernel
set_option maxRecDepth 65536 in
theorem w_ripe : about1.ripe theMethod args0 below0 = true := by decide +kernel
theorem w_running : about1.status = .running := rfl
set_option maxRecDepth 65536 in
theorem w_room : about1.hasRoom e0.platform room_1 = true :=
  launch0.hasRoom_least _ room_1 (by decide +kernel) (by decide +kernel) (by decide +kernel) (by decide +kernel) (by decide +kernel) (by decide +kernel)
theorem allAtoms_all (ts : List Jvm.Cond) (a : Array Jvm.Value) (st : Jvm.State) : (allAtoms ts).before a st = ts.all (fun c => c.before a st) := by
  induction ts with
  | nil => rfl
  | cons c t ih =>
    show (Jvm.Cond.and c (allAtoms t)).before a st = _
    rw [Jvm.Cond.before_and, ih, List.all_cons]
def words1 : List Jvm.Cond := Jvm.Cond.code x code maxLocals ret :: tables_1
/-- a 'code' word, met by the world's own term for the bytes: nothing is compared byte by byte -/
theorem code_word {y : MethodName} {bytes : ByteArray} {mx : Nat} {rt : Option FieldType} {a : Array Value} {s : State} {m : MethodId} {meth : Method} {c : Code} (h1 : s.methodNamed? y = some m) (h2 : s.vm.method? m = some meth) (h3 : meth.code = some c) (h4 : c.code = bytes)
    (h5 : (c.maxLocals == mx && c.exceptionTable.isEmpty && decide (c.maxStack ≤ mostOperands) && decide (meth.sig.returnType = rt) && !meth.locks && decide (parseMethodDescriptor y.desc = some meth.sig)) = true) : (Jvm.Cond.code y bytes mx rt).before a s = true := by
  simp only [Bool.and_eq_true, beq_iff_eq, Bool.not_eq_true', decide_eq_true_eq] at h5
  obtain ⟨⟨⟨⟨⟨g1, g2⟩, g3⟩, g4⟩, g5⟩, g6⟩ := h5
  simp [Cond.before, Cond.holds, Cond.value, h1, h2, h3, h4, g1, g2, g3, g4, g5, g6]
def isCode : Jvm.Cond → Bool
  | .code _ _ _ _ => true
  | _ => false
theorem all_split {L : List Jvm.Cond} {P : Jvm.Cond → Bool} (h1 : L.all (fun c => isCode c || P c) = true) (h2 : ∀ c ∈ L.filter isCode, P c = true) : L.all P = true := by
  refine List.all_eq_true.mpr fun c hc => ?_
  have h := List.all_eq_true.mp h1 c hc
  rcases Bool.eq_false_or_eq_true (isCode c) with hi | hi
  · exact h2 c (List.mem_filter.mpr ⟨hc, hi⟩)
  · simpa [hi] using h
set_option maxRecDepth 65536 in
theorem w_c0 : (Jvm.Cond.code x code maxLocals ret).before args0 about1 = true := code_word (m := ⟨1, 2⟩) (meth := k1m2) (c := k1c2) (by decide +kernel) rfl rfl rfl (by decide +kernel)
set_option maxRecDepth 65536 in
theorem w_c1 : (Jvm.Cond.code ({ cls := "com/example/polyglyph/polyglyph/wire/PrimitiveArrays", name := "allWithin", desc := "([II)Z" } : Jvm.MethodName) prog_95_method_27_code (6 : Nat) (Option.some Jvm.ClassFile.FieldType.boolean)).before args0 about1 = true := code_word (m := ⟨2, 1⟩) (meth := k2m1) (c := k2c1) (by decide +kernel) rfl rfl rfl (by decide +kernel)
set_option maxRecDepth 65536 in
theorem w_c2 : (Jvm.Cond.code ({ cls := "com/example/polyglyph/polyglyph/wire/PrimitiveArraysAllWithin375PinLaw", name := "inRange", desc := "(II)Z" } : Jvm.MethodName) method_2_code (6 : Nat) (Option.some Jvm.ClassFile.FieldType.boolean)).before args0 about1 = true := code_word (m := ⟨1, 1⟩) (meth := k1m1) (c := k1c1) (by decide +kernel) rfl rfl rfl (by decide +kernel)
def codes1 : List Jvm.Cond := [Jvm.Cond.code x code maxLocals ret, Jvm.Cond.code ({ cls := "com/example/polyglyph/polyglyph/wire/PrimitiveArrays", name := "allWithin", desc := "([II)Z" } : Jvm.MethodName) prog_95_method_27_code (6 : Nat) (Option.some Jvm.ClassFile.FieldType.boolean), Jvm.Cond.code ({ cls := "com/example/polyglyph/polyglyph/wire/PrimitiveArraysAllWithin375PinLaw", name := "inRange", desc := "(II)Z" } : Jvm.MethodName) method_2_code (6 : Nat) (Option.some Jvm.ClassFile.FieldType.boolean)]
set_option maxRecDepth 65536 in
theorem codes_eq : words1.filter isCode = codes1 := rfl
theorem w_codes : ∀ c ∈ words1.filter isCode, c.before args0 about1 = true := by
  rw [codes_eq]
  intro c hc
  simp only [codes1, List.mem_cons, List.not_mem_nil, or_false] at hc
  rcases hc with rfl | rfl | rfl
  · exact w_c0
  · exact w_c1
  · exact w_c2
set_option maxRecDepth 65536 in
theorem w_t1 : words1.all (fun c => isCode c || c.before args0 about1) = true := by decide +kernel
theorem w_tables : (allAtoms (Jvm.Cond.code x code maxLocals ret :: tables_1)).before args0 about1 = true := by
  rw [allAtoms_all]
  show words1.all (fun c => c.before args0 about1) = true
  refine all_split ?_ w_codes
  rw [w_t1]
set_option maxRecDepth 65536 in
theorem w_case : (Jvm.Cond.and given_1 narrow_1).before args0 about1 = true := by decide +kernel
theorem w_applies : (headSpec (Jvm.Cond.code x code maxLocals ret :: tables_1) room_1).applies x e0.platform about1 = true :=
  (Spec.applies_iff w_frames).mpr ⟨w_running, w_runnable, w_alone, w_named, w_hears, w_ripe, w_room, w_tables⟩
theorem atStart : AtStart classFile x code maxLocals ret World_1 tables_1 room_1 Calls_1 rest_1 Pre_1 launch0 p0 e0 about1 theMethod args0 below0 :=
  ⟨lists_1, trivial, launch0.admits_env _ _ _, launch0.least_env, fairChoices_fair.cas, fairChoices_fair.clock, w_frames, w_args, w_heap, w_applies, trivial, trivial, w_case⟩
end start1
theorem witness_1 : WitnessClaimed_1 := ⟨start1.p0, start1.e0, start1.about1, start1.theMethod, start1.args0, start1.below0, start1.atStart⟩
end Jvm.Pilot.@@N@@
