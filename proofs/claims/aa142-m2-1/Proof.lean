import JvmDerived
import JvmDerived.Pilot.@@N@@Statement
import JvmDerived.Pilot.@@N@@Code
set_option linter.unusedVariables false
set_option linter.unusedSimpArgs false
namespace Jvm.RoadKit
open Sem ClassFile Op Lib Jvm.Stand Jvm.Free Jvm.LawKit
section New
variable {p : Program} {l : Launch} {e : Env} {R : Room} {s : State} {m : MethodId} {args : Array Value} {below : List Frame} {meth : Method} {c : Code} {T : State} {locs : List Loc} {cells slots : Nat}
theorem retI (X : Stand p l e R s m args below meth c T locs cells slots) (hx : p.tables.exec = Jvm.exec) {pc : Nat} {Ls : Array Slot} {z : Int32} {rest : List Value} (hret : meth.sig.returnType = some .int) (hd : decode c.code pc = .ok (.ireturn, 1)) {fs : List Frame}
    (hl : ∀ (f : JFrame) (acts : List Action), f.method = m → f.locked = none → f.entered = [] → (doReturn e (T.setTop f) acts (some (.int z))).1 = T.setFrames fs) : Steps p.tables e below (T.setTop (mkF m pc Ls (.int z :: rest))) (T.setFrames fs) := by
  have hm' : T.vm.method? m = some meth := X.method'
  have hn : narrow .int (.int z) = .int z := rfl
  show Steps p.tables e below (T.setTop { method := m, pc := pc, locals := Ls, stack := _ :: rest, locked := none }) _
  jvm_step X.here [X.here.top, hx, hd, hm', hret, hn]
  first | (intro acts; rw [hl _ acts rfl rfl rfl]) | rw [hl _ _ rfl rfl rfl]
  exact Steps.refl _
end New
end Jvm.RoadKit
namespace Jvm.Pilot.@@N@@
open Jvm Jvm.ClassFile Sem Op Lib Jvm.Free Jvm.Stand Jvm.LawKit Jvm.RoadKit Bundle Jvm.Pilot.@@N@@.Jvm.D
section Own
variable {p : Program} {l : Launch} {e : Env} {R : Room} {s : State} {m : MethodId} {args : Array Value} {below : List Frame} {meth : Method} {c : Code} {T : State} {locs : List Loc} {cells slots : Nat} {Z : State} {a0 : Array Value} {h : Heap} {Q : Option Value → Heap → List Loc → Prop} {C N : Nat}
/-- from the state U the run comes to this invocation's end, which returns, and Q holds of the value, the heap and the written places -/
def zq_Go (p : Program) (e : Env) (below : List Frame) (s : State) (Q : Option Value → Heap → List Loc → Prop) (C N : Nat) (U : State) : Prop :=
  ∃ t o, Steps p.tables e below U t ∧ t.status = .running ∧ Ended t below o ∧ ∃ v L, o = .returned v ∧ Q v t.heap L ∧ FrameEnd s o t L C N
theorem zq_go {A B : State} (k : ∀ t, Steps p.tables e below A t → Steps p.tables e below B t) (h : zq_Go p e below s Q C N A) : zq_Go p e below s Q C N B := by
  obtain ⟨t, o, h1, r⟩ := h
  exact ⟨t, o, k t h1, r⟩
theorem zq_out (X : Stand p l e R s m args below meth c T locs cells slots) (hl : meth.locks = false) {v : Option Value} (hv : meth.sig.returnType = none → v = none) {A : State}
    (k : ∀ fs, (∀ (f : JFrame) (acts : List Action), f.method = m → f.locked = none → f.entered = [] → (doReturn e (T.setTop f) acts v).1 = T.setFrames fs) → Steps p.tables e below A (T.setFrames fs)) (hq : Q v T.heap locs) (hc : cells ≤ C) (hs : slots ≤ N) : zq_Go p e below s Q C N A := by
  obtain ⟨fs, hr, hrun, hended, hW, hsame⟩ := X.leave (v := v) hv hl
  exact ⟨_, _, k fs hr, hrun, hended, v, locs, rfl, hq, ⟨_, rfl⟩, hW, hsame.mono hc hs⟩
theorem zq_retN (X : Stand p l e R s m args below meth c T locs cells slots) (hx : p.tables.exec = Jvm.exec) (hl : meth.locks = false) {pc : Nat} {Ls : Array Slot} {z : Int32} {t : FieldType} {rest : List Value} (hret : meth.sig.returnType = some t) (ht : t = .boolean ∨ t = .byte ∨ t = .char ∨ t = .short)
    (hd : decode c.code pc = .ok (.ireturn, 1)) (hq : Q (some (.int (nar t z))) T.heap locs) (hc : cells ≤ C) (hs : slots ≤ N) : zq_Go p e below s Q C N (T.setTop (mkF m pc Ls (.int z :: rest))) :=
  zq_out X hl (fun h => by rw [hret] at h; cases h) (fun fs hr => retN X hx hret ht hd hr) hq hc hs
theorem zq_retI (X : Stand p l e R s m args below meth c T locs cells slots) (hx : p.tables.exec = Jvm.exec) (hl : meth.locks = false) {pc : Nat} {Ls : Array Slot} {z : Int32} {rest : List Value} (hret : meth.sig.returnType = some .int)
    (hd : decode c.code pc = .ok (.ireturn, 1)) (hq : Q (some (.int z)) T.heap locs) (hc : cells ≤ C) (hs : slots ≤ N) : zq_Go p e below s Q C N (T.setTop (mkF m pc Ls (.int z :: rest))) :=
  zq_out X hl (fun h => by rw [hret] at h; cases h) (fun fs hr => retI X hx hret hd hr) hq hc hs
theorem zq_retJ (X : Stand p l e R s m args below meth c T locs cells slots) (hx : p.tables.exec = Jvm.exec) (hl : meth.locks = false) {pc : Nat} {Ls : Array Slot} {z : Int64} (hret : meth.sig.returnType = some .long)
    (hd : decode c.code pc = .ok (.lreturn, 1)) (hq : Q (some (.long z)) T.heap locs) (hc : cells ≤ C) (hs : slots ≤ N) : zq_Go p e below s Q C N (T.setTop (mkF m pc Ls [.long z])) :=
  zq_out X hl (fun h => by rw [hret] at h; cases h) (fun fs hr => X.lreturnOut hx hret hd hr) hq hc hs
theorem zq_retA (X : Stand p l e R s m args below meth c T locs cells slots) (hx : p.tables.exec = Jvm.exec) (hl : meth.locks = false) {pc : Nat} {Ls : Array Slot} {w : Value} {t : FieldType} (hw : w.isRef = true) (hret : meth.sig.returnType = some t) (ht : t.isReference = true)
    (hd : decode c.code pc = .ok (.areturn, 1)) (hq : Q (some w) T.heap locs) (hc : cells ≤ C) (hs : slots ≤ N) : zq_Go p e below s Q C N (T.setTop (mkF m pc Ls [w])) :=
  zq_out X hl (fun h => by rw [hret] at h; cases h) (fun fs hr => X.areturnOut hx hw hret ht hd hr) hq hc hs
theorem zq_ret0 (X : Stand p l e R s m args below meth c T locs cells slots) (hx : p.tables.exec = Jvm.exec) (hl : meth.locks = false) {pc : Nat} {Ls : Array Slot} (hret : meth.sig.returnType = none)
    (hd : decode c.code pc = .ok (.return_, 1)) (hq : Q none T.heap locs) (hc : cells ≤ C) (hs : slots ≤ N) : zq_Go p e below s Q C N (T.setTop (mkF m pc Ls [])) :=
  zq_out X hl (fun _ => rfl) (fun fs hr => X.returnOut hx hret hd hr) hq hc hs
/-- a method's contract, from the heap h0, for the arguments a -/
abbrev zq_Met (l : Launch) (Z : State) (y : MethodName) (bytes : ByteArray) (maxL : Nat) (ret : Option FieldType) (ws : List Jvm.Cond) (rm : Room) (a : Array Value) (h0 : Heap) (Q : Option Value → Heap → List Loc → Prop) : Prop :=
  MetFree l y (head1 (Jvm.Cond.code y bytes maxL ret :: ws) rm) (fun a' U => a' = a ∧ Z.Warmed39 U.vm ∧ U.heap = h0) (fun _ _ _ _ _ => True) (fun _ U o U' => ∃ v L, o = .returned v ∧ Q v U'.heap L ∧ FrameEnd U o U' L rm.cells rm.slots)
theorem zq_body {y : MethodName} {bytes : ByteArray} {maxL : Nat} {ret : Option FieldType} {ws : List Jvm.Cond} {rm : Room} {a : Array Value} {h0 : Heap} (hpl : plainFor y = true)
    (body : ∀ (p : Program) (e : Env) (s : State) (m : MethodId) (below : List Frame) (meth : Method) (c : Code) (s₁ : State), p.tables.exec = Jvm.exec → Z.Warmed39 s.vm → c.code = bytes → c.maxLocals = maxL → meth.sig.returnType = ret → meth.locks = false → s.vm.findClass y.cls = some m.cls → meth.name = y.name → Stand p l e rm s m a below meth c s₁ [] 0 0 → s₁.heap = h0 → zq_Go p e below s Q rm.cells rm.slots (s₁.setTop (entryFrame m a maxL))) :
    zq_Met l Z y bytes maxL ret ws rm a h0 Q := by
  refine MetFree.of_bodySF hpl hisR ?_
  intro p e s m args below meth c s₁ Bd hml0 hP hK
  obtain ⟨rfl, hZ, hh⟩ := hP
  exact body p e s m below meth c s₁ Bd.exec hZ Bd.bytes hml0 Bd.returns Bd.notSynchronized (findClass_of_methodNamed Bd.named) (name_of_methodNamed Bd.named Bd.method).1 (Stand.of_body Bd) (by rw [← hh, Bd.state]; rfl)
/-- a callee that leaves no trace and returns r -/
def zq_pure (r : Value) (h0 : Heap) : Option Value → Heap → List Loc → Prop := fun v h L => v = some r ∧ L = [] ∧ h = h0
theorem zq_callS (X : Stand p l e R s m args below meth c T locs cells slots) (hx : p.tables.exec = Jvm.exec) (hZ : Z.Warmed39 s.vm) {own : String} {index W : Nat} {y : MethodName} {bytes : ByteArray} {maxL : Nat} {ret : Option FieldType} {rm : Room} (hown : s.vm.findClass own = some m.cls)
    (w1 : (Cond.methodLink own index y).before a0 Z = true) (w2 : (Cond.static y).before a0 Z = true) (w3 : (Cond.initialized y.cls).before a0 Z = true) (w4 : (Cond.code y bytes maxL ret).before a0 Z = true) (hy : y.cls ≠ "java/lang/invoke/MethodHandle" ∧ y.cls ≠ "java/lang/invoke/VarHandle") {argsL rest : List Value}
    (hM : zq_Met l Z y bytes maxL ret [] rm argsL.toArray h Q) (eT : T.heap = h) (hf : rm.frames + 1 ≤ R.frames) (hl : W + (maxL + 11) + rm.locals ≤ R.locals) (hcells : cells + rm.cells ≤ R.cells) (hslots : slots + rm.slots ≤ R.slots)
    {g : JFrame} (hg : g.method = m) (hsize : g.locals.size = c.maxLocals) (hlen : ∀ sig, parseMethodDescriptor y.desc = some sig → argsL.length = sig.parameters.length) (hstack : g.stack = argsL.reverse ++ rest) (hW : 2 * g.monitorRoom + (rest.map fun v => v.category).sum ≤ W) (hdg : decode c.code g.pc = .ok (.invokestatic index, 3)) :
    ∃ (v : Option Value) (T' : State) (L : List Loc), Stand p l e R s m args below meth c T' (locs ++ L) (cells + rm.cells) (slots + rm.slots) ∧ Q v T'.heap L ∧ ∀ target, Steps p.tables e below (T'.setTop { g with pc := g.pc + 3, stack := v.toList ++ rest }) target → Steps p.tables e below (T.setTop g) target := by
  obtain ⟨v, vm₁, ⟨T', L', k', n'⟩, -, X', ⟨L, hQ, e1, e2, e3⟩, st⟩ := Jvm.LawKit.callS X hx (y := y) hown (mvT hZ w1) (mvT hZ w2) (mvT hZ w3) (mvT hZ w4) hy (backOf (W := W) hM hZ w4 w3 hf hl) hg hsize hlen hstack hW hdg (fun _ _ => ⟨rfl, eT, hcells, hslots⟩)
  dsimp only [Pt.U, Pt.locs, Pt.cells, Pt.slots] at X' hQ e1 e2 e3 st
  subst e1 e2 e3
  exact ⟨v, T', L, X', hQ, st⟩
theorem zq_callP (X : Stand p l e R s m args below meth c T locs cells slots) (hx : p.tables.exec = Jvm.exec) (hZ : Z.Warmed39 s.vm) {own : String} {index W : Nat} {y : MethodName} {bytes : ByteArray} {maxL : Nat} {ret : Option FieldType} {rm : Room} {r : Value} (hown : s.vm.findClass own = some m.cls)
    (w1 : (Cond.methodLink own index y).before a0 Z = true) (w2 : (Cond.static y).before a0 Z = true) (w3 : (Cond.initialized y.cls).before a0 Z = true) (w4 : (Cond.code y bytes maxL ret).before a0 Z = true) (hy : y.cls ≠ "java/lang/invoke/MethodHandle" ∧ y.cls ≠ "java/lang/invoke/VarHandle") {argsL rest : List Value}
    (hM : zq_Met l Z y bytes maxL ret [] rm argsL.toArray h (zq_pure r h)) (eT : T.heap = h) (hf : rm.frames + 1 ≤ R.frames) (hl : W + (maxL + 11) + rm.locals ≤ R.locals) (hcells : rm.cells = 0) (hslots : rm.slots = 0) (hC : cells ≤ R.cells) (hN : slots ≤ R.slots)
    {g : JFrame} (hg : g.method = m) (hsize : g.locals.size = c.maxLocals) (hlen : ∀ sig, parseMethodDescriptor y.desc = some sig → argsL.length = sig.parameters.length) (hstack : g.stack = argsL.reverse ++ rest) (hW : 2 * g.monitorRoom + (rest.map fun v => v.category).sum ≤ W) (hdg : decode c.code g.pc = .ok (.invokestatic index, 3)) :
    ∃ T' : State, Stand p l e R s m args below meth c T' locs cells slots ∧ T'.heap = h ∧ ∀ target, Steps p.tables e below (T'.setTop { g with pc := g.pc + 3, stack := r :: rest }) target → Steps p.tables e below (T.setTop g) target := by
  obtain ⟨v, T', L, X', ⟨rfl, rfl, q⟩, st⟩ := zq_callS X hx hZ hown w1 w2 w3 w4 hy hM eT hf hl (by rw [hcells]; exact hC) (by rw [hslots]; exact hN) hg hsize hlen hstack hW hdg
  rw [hcells, hslots, List.append_nil] at X'
  exact ⟨T', X', q, st⟩
/-- what the law's own contract says: it returns 1, and wrote to new cells alone -/
def zq_one (n0 : Nat) : Option Value → Heap → List Loc → Prop := fun v _ L => v = some (.int 1) ∧ Fr n0 L
theorem zq_callC (X : Stand p l e R s m args below meth c T locs cells slots) (hx : p.tables.exec = Jvm.exec) (hZ : Z.Warmed39 s.vm) {own : String} {index W : Nat} {y : MethodName} {bytes : ByteArray} {maxL : Nat} {rm : Room} (hy1 : y.name = "<init>") (hown : s.vm.findClass own = some m.cls)
    (w1 : (Cond.methodLink own index y).before a0 Z = true) (w2 : (Cond.instanceMethod y).before a0 Z = true) (w3 : (Cond.initialized y.cls).before a0 Z = true) (w4 : (Cond.code y bytes maxL none).before a0 Z = true) (hy : y.cls ≠ "java/lang/invoke/MethodHandle" ∧ y.cls ≠ "java/lang/invoke/VarHandle") {a : Addr} {argsL rest : List Value}
    (hM : zq_Met l Z y bytes maxL none [] rm (.ref a :: argsL).toArray h Q) (eT : T.heap = h) (hf : rm.frames + 1 ≤ R.frames) (hl : W + (maxL + 11) + rm.locals ≤ R.locals) (hcells : cells + rm.cells ≤ R.cells) (hslots : slots + rm.slots ≤ R.slots)
    {g : JFrame} (hg : g.method = m) (hsize : g.locals.size = c.maxLocals) (hlen : ∀ sig, parseMethodDescriptor y.desc = some sig → argsL.length = sig.parameters.length) (hstack : g.stack = argsL.reverse ++ .ref a :: rest) (hW : 2 * g.monitorRoom + (rest.map fun v => v.category).sum ≤ W) (hdg : decode c.code g.pc = .ok (.invokespecial index, 3)) :
    ∃ (v : Option Value) (T' : State) (L : List Loc), Stand p l e R s m args below meth c T' (locs ++ L) (cells + rm.cells) (slots + rm.slots) ∧ Q v T'.heap L ∧ ∀ target, Steps p.tables e below (T'.setTop { g with pc := g.pc + 3, stack := v.toList ++ rest }) target → Steps p.tables e below (T.setTop g) target := by
  obtain ⟨v, vm₁, ⟨T', L', k', n'⟩, -, X', ⟨L, hQ, e1, e2, e3⟩, st⟩ := X.specialBack hx (y := y) hy1 hown (mvT hZ w1) (mvT hZ w2) (mvT hZ w4) hy (backOf (W := W) hM hZ w4 w3 hf hl) hg hsize (Steps.refl _) hlen hstack hW hdg (fun _ _ => ⟨rfl, eT, hcells, hslots⟩)
  dsimp only [Pt.U, Pt.locs, Pt.cells, Pt.slots] at X' hQ e1 e2 e3 st
  subst e1 e2 e3
  exact ⟨v, T', L, X', hQ, fun t k => st.trans k⟩
theorem zq_callV (X : Stand p l e R s m args below meth c T locs cells slots) (hx : p.tables.exec = Jvm.exec) (hZ : Z.Warmed39 s.vm) {own : String} {index W : Nat} {y : MethodName} {bytes : ByteArray} {maxL : Nat} {ret : Option FieldType} {rm : Room} (hown : s.vm.findClass own = some m.cls)
    (w1 : (Cond.methodLink own index y).before a0 Z = true) (w2 : (Cond.declares y).before a0 Z = true) (w5 : (Cond.selects y.cls y y).before a0 Z = true) (w6 : (Cond.instanceMethod y).before a0 Z = true) (w3 : (Cond.initialized y.cls).before a0 Z = true) (w4 : (Cond.code y bytes maxL ret).before a0 Z = true) (hy : y.cls ≠ "java/lang/invoke/MethodHandle" ∧ y.cls ≠ "java/lang/invoke/VarHandle") {a : Addr} {argsL rest : List Value}
    (hM : zq_Met l Z y bytes maxL ret [] rm (.ref a :: argsL).toArray h Q) (eT : T.heap = h) (E : Exa Z h a y.cls) (hf : rm.frames + 1 ≤ R.frames) (hl : W + (maxL + 11) + rm.locals ≤ R.locals) (hcells : cells + rm.cells ≤ R.cells) (hslots : slots + rm.slots ≤ R.slots)
    {g : JFrame} (hg : g.method = m) (hsize : g.locals.size = c.maxLocals) (hlen : ∀ sig, parseMethodDescriptor y.desc = some sig → argsL.length = sig.parameters.length) (hstack : g.stack = argsL.reverse ++ .ref a :: rest) (hW : 2 * g.monitorRoom + (rest.map fun v => v.category).sum ≤ W) (hdg : decode c.code g.pc = .ok (.invokevirtual index, 3)) :
    ∃ (v : Option Value) (T' : State) (L : List Loc), Stand p l e R s m args below meth c T' (locs ++ L) (cells + rm.cells) (slots + rm.slots) ∧ Q v T'.heap L ∧ ∀ target, Steps p.tables e below (T'.setTop { g with pc := g.pc + 3, stack := v.toList ++ rest }) target → Steps p.tables e below (T.setTop g) target := by
  obtain ⟨cq, kq, q1, q2, q3⟩ := isOf hZ eT E
  obtain ⟨v, vm₁, ⟨T', L', k', n'⟩, -, X', ⟨L, hQ, e1, e2, e3⟩, st⟩ := X.virtualBack hx (y := y) (z := y) hown (mvT hZ w1) (mvT hZ w2) (notFace_of_selects (args := #[]) (mvT hZ w5)) (mvT hZ w5) (mvT hZ w6) hy (backOf (W := W) hM hZ w4 w3 hf hl) q1 q3 hg hsize (Steps.refl _) hlen hstack hW hdg (fun _ _ => ⟨rfl, eT, hcells, hslots⟩)
  dsimp only [Pt.U, Pt.locs, Pt.cells, Pt.slots] at X' hQ e1 e2 e3 st
  subst e1 e2 e3
  exact ⟨v, T', L, X', hQ, fun t k => st.trans k⟩
theorem zq_callVP (X : Stand p l e R s m args below meth c T locs cells slots) (hx : p.tables.exec = Jvm.exec) (hZ : Z.Warmed39 s.vm) {own : String} {index W : Nat} {y : MethodName} {bytes : ByteArray} {maxL : Nat} {ret : Option FieldType} {rm : Room} {r : Value} (hown : s.vm.findClass own = some m.cls)
    (w1 : (Cond.methodLink own index y).before a0 Z = true) (w2 : (Cond.declares y).before a0 Z = true) (w5 : (Cond.selects y.cls y y).before a0 Z = true) (w6 : (Cond.instanceMethod y).before a0 Z = true) (w3 : (Cond.initialized y.cls).before a0 Z = true) (w4 : (Cond.code y bytes maxL ret).before a0 Z = true) (hy : y.cls ≠ "java/lang/invoke/MethodHandle" ∧ y.cls ≠ "java/lang/invoke/VarHandle") {a : Addr} {argsL rest : List Value}
    (hM : zq_Met l Z y bytes maxL ret [] rm (.ref a :: argsL).toArray h (zq_pure r h)) (eT : T.heap = h) (E : Exa Z h a y.cls) (hf : rm.frames + 1 ≤ R.frames) (hl : W + (maxL + 11) + rm.locals ≤ R.locals) (hcells : rm.cells = 0) (hslots : rm.slots = 0) (hC : cells ≤ R.cells) (hN : slots ≤ R.slots)
    {g : JFrame} (hg : g.method = m) (hsize : g.locals.size = c.maxLocals) (hlen : ∀ sig, parseMethodDescriptor y.desc = some sig → argsL.length = sig.parameters.length) (hstack : g.stack = argsL.reverse ++ .ref a :: rest) (hW : 2 * g.monitorRoom + (rest.map fun v => v.category).sum ≤ W) (hdg : decode c.code g.pc = .ok (.invokevirtual index, 3)) :
    ∃ T' : State, Stand p l e R s m args below meth c T' locs cells slots ∧ T'.heap = h ∧ ∀ target, Steps p.tables e below (T'.setTop { g with pc := g.pc + 3, stack := r :: rest }) target → Steps p.tables e below (T.setTop g) target := by
  obtain ⟨v, T', L, X', ⟨rfl, rfl, q⟩, st⟩ := zq_callV X hx hZ hown w1 w2 w5 w6 w3 w4 hy hM eT E hf hl (by rw [hcells]; exact hC) (by rw [hslots]; exact hN) hg hsize hlen hstack hW hdg
  rw [hcells, hslots, List.append_nil] at X'
  exact ⟨T', X', q, st⟩
/-- a constructor (or a void callee) that leaves no trace -/
def zq_void (h0 : Heap) : Option Value → Heap → List Loc → Prop := fun v h L => v = none ∧ L = [] ∧ h = h0
theorem zq_callC0 (X : Stand p l e R s m args below meth c T locs cells slots) (hx : p.tables.exec = Jvm.exec) (hZ : Z.Warmed39 s.vm) {own : String} {index W : Nat} {y : MethodName} {bytes : ByteArray} {maxL : Nat} {rm : Room} (hy1 : y.name = "<init>") (hown : s.vm.findClass own = some m.cls)
    (w1 : (Cond.methodLink own index y).before a0 Z = true) (w2 : (Cond.instanceMethod y).before a0 Z = true) (w3 : (Cond.initialized y.cls).before a0 Z = true) (w4 : (Cond.code y bytes maxL none).before a0 Z = true) (hy : y.cls ≠ "java/lang/invoke/MethodHandle" ∧ y.cls ≠ "java/lang/invoke/VarHandle") {a : Addr} {argsL rest : List Value}
    (hM : zq_Met l Z y bytes maxL none [] rm (.ref a :: argsL).toArray h (zq_void h)) (eT : T.heap = h) (hf : rm.frames + 1 ≤ R.frames) (hl : W + (maxL + 11) + rm.locals ≤ R.locals) (hcells : rm.cells = 0) (hslots : rm.slots = 0) (hC : cells ≤ R.cells) (hN : slots ≤ R.slots)
    {g : JFrame} (hg : g.method = m) (hsize : g.locals.size = c.maxLocals) (hlen : ∀ sig, parseMethodDescriptor y.desc = some sig → argsL.length = sig.parameters.length) (hstack : g.stack = argsL.reverse ++ .ref a :: rest) (hW : 2 * g.monitorRoom + (rest.map fun v => v.category).sum ≤ W) (hdg : decode c.code g.pc = .ok (.invokespecial index, 3)) :
    ∃ T' : State, Stand p l e R s m args below meth c T' locs cells slots ∧ T'.heap = h ∧ ∀ target, Steps p.tables e below (T'.setTop { g with pc := g.pc + 3, stack := rest }) target → Steps p.tables e below (T.setTop g) target := by
  obtain ⟨v, T', L, X', ⟨rfl, rfl, q⟩, st⟩ := zq_callC X hx hZ hy1 hown w1 w2 w3 w4 hy hM eT hf hl (by rw [hcells]; exact hC) (by rw [hslots]; exact hN) hg hsize hlen hstack hW hdg
  rw [hcells, hslots, List.append_nil] at X'
  exact ⟨T', X', q, st⟩
/-- an array of n places; place j holds f j -/
def zq_A (Z : State) (h : Heap) (a : Addr) (ty : FieldType) (n : Nat) (f : Nat → Value) : Prop := ∃ cl : Cell, Arr Z h a cl ty ∧ cl.slots.size = n ∧ ∀ j, j < n → cl.slots[j]? = some (f j)
variable {h' : Heap} {a b : Addr} {ty : FieldType} {n sl : Nat} {f f' : Nat → Value} {v : Value} {as : List Addr}
theorem zq_A.lt (F : zq_A Z h a ty n f) : a < h.size := by obtain ⟨cl, A, -⟩ := F; exact A.lt
theorem zq_A.ext (F : zq_A Z h a ty n f) (E : Ext h h') : zq_A Z h' a ty n f := by obtain ⟨cl, A, r⟩ := F; exact ⟨cl, A.ext E, r⟩
theorem zq_A.other (F : zq_A Z h b ty n f) (W : Wr h h' a sl v) (q : b ≠ a) : zq_A Z h' b ty n f := by obtain ⟨cl, A, r⟩ := F; exact ⟨cl, A.other W q, r⟩
theorem zq_A.keep (F : zq_A Z h a ty n f) (K : Keep h h' as) (q : a ∉ as) : zq_A Z h' a ty n f := by obtain ⟨cl, A, r⟩ := F; exact ⟨cl, ⟨K.2.1 a cl A.1 q, A.2⟩, r⟩
theorem zq_A.congr (F : zq_A Z h a ty n f) (q : ∀ j, j < n → f j = f' j) : zq_A Z h a ty n f' := by obtain ⟨cl, A, S, H⟩ := F; exact ⟨cl, A, S, fun j hj => by rw [← q j hj]; exact H j hj⟩
theorem zq_A.set (F : zq_A Z h a ty n f) (W : Wr h h' a sl v) : zq_A Z h' a ty n (fun j => if j = sl then v else f j) := by
  obtain ⟨cl, A, S, H⟩ := F
  refine ⟨_, A.same W, ?_, fun j hj => ?_⟩
  · show (cl.slots.setIfInBounds sl v).size = n
    rw [Array.size_setIfInBounds]; exact S
  · show (cl.slots.setIfInBounds sl v)[j]? = some (if j = sl then v else f j)
    by_cases q : j = sl
    · subst q
      rw [if_pos rfl, Array.getElem?_setIfInBounds_self_of_lt (by rw [S]; exact hj)]
    · rw [if_neg q, Array.getElem?_setIfInBounds_ne (Ne.symm q)]; exact H j hj
theorem zq_inb {cl : Cell} {j : Int32} {i : Nat} (S : cl.slots.size = n) (hj : j.toNatClampNeg = i) (h0 : ¬ j < 0) (hi : i < n) : ¬ (j < 0 ∨ cl.slots.size ≤ j.toNatClampNeg) := by
  rintro (q | q)
  · exact h0 q
  · omega
theorem zq_ldI (X : Stand p l e R s m args below meth c T locs cells slots) (hx : p.tables.exec = Jvm.exec) (hZ : Z.Warmed39 s.vm) (eT : T.heap = h) (F : zq_A Z h a .int n f) {j : Int32} {i : Nat} (hj : j.toNatClampNeg = i) (h0 : ¬ j < 0) (hi : i < n)
    {g : JFrame} (hg : g.method = m) {rest : List Value} (hs : g.stack = .int j :: .ref a :: rest) (hd : decode c.code g.pc = .ok (.iaload, 1)) : ∀ target, Steps p.tables e below (T.setTop { g with pc := g.pc + 1, stack := f i :: rest }) target → Steps p.tables e below (T.setTop g) target := by
  obtain ⟨cl, A, S, H⟩ := F
  exact fun t k => X.iaload hx (j := j) (v := f i) (by rw [eT]; exact A.1) (State.isArrayOf_alike hZ.alike A.2.1) A.2.2 (zq_inb S hj h0 hi) (by rw [hj]; exact H i hi) hg hs hd t k
theorem zq_ldB (X : Stand p l e R s m args below meth c T locs cells slots) (hx : p.tables.exec = Jvm.exec) (hZ : Z.Warmed39 s.vm) (eT : T.heap = h) (F : zq_A Z h a .byte n f) {j : Int32} {i : Nat} (hj : j.toNatClampNeg = i) (h0 : ¬ j < 0) (hi : i < n)
    {g : JFrame} (hg : g.method = m) {rest : List Value} (hs : g.stack = .int j :: .ref a :: rest) (hd : decode c.code g.pc = .ok (.baload, 1)) : ∀ target, Steps p.tables e below (T.setTop { g with pc := g.pc + 1, stack := f i :: rest }) target → Steps p.tables e below (T.setTop g) target := by
  obtain ⟨cl, A, S, H⟩ := F
  exact fun t k => X.baloadBytes hx (j := j) (v := f i) (by rw [eT]; exact A.1) (State.isArrayOf_alike hZ.alike A.2.1) A.2.2 (zq_inb S hj h0 hi) (by rw [hj]; exact H i hi) hg hs hd t k
theorem zq_ldC (X : Stand p l e R s m args below meth c T locs cells slots) (hx : p.tables.exec = Jvm.exec) (hZ : Z.Warmed39 s.vm) (eT : T.heap = h) (F : zq_A Z h a .char n f) {j : Int32} {i : Nat} (hj : j.toNatClampNeg = i) (h0 : ¬ j < 0) (hi : i < n)
    {g : JFrame} (hg : g.method = m) {rest : List Value} (hs : g.stack = .int j :: .ref a :: rest) (hd : decode c.code g.pc = .ok (.caload, 1)) : ∀ target, Steps p.tables e below (T.setTop { g with pc := g.pc + 1, stack := f i :: rest }) target → Steps p.tables e below (T.setTop g) target := by
  obtain ⟨cl, A, S, H⟩ := F
  exact fun t k => X.caload hx (j := j) (v := f i) (by rw [eT]; exact A.1) (State.isArrayOf_alike hZ.alike A.2.1) A.2.2 (zq_inb S hj h0 hi) (by rw [hj]; exact H i hi) hg hs hd t k
theorem zq_ldJ (X : Stand p l e R s m args below meth c T locs cells slots) (hx : p.tables.exec = Jvm.exec) (hZ : Z.Warmed39 s.vm) (eT : T.heap = h) (F : zq_A Z h a .long n f) {j : Int32} {i : Nat} (hj : j.toNatClampNeg = i) (h0 : ¬ j < 0) (hi : i < n)
    {g : JFrame} (hg : g.method = m) {rest : List Value} (hs : g.stack = .int j :: .ref a :: rest) (hd : decode c.code g.pc = .ok (.laload, 1)) : ∀ target, Steps p.tables e below (T.setTop { g with pc := g.pc + 1, stack := f i :: rest }) target → Steps p.tables e below (T.setTop g) target := by
  obtain ⟨cl, A, S, H⟩ := F
  exact fun t k => X.laload hx (j := j) (v := f i) (by rw [eT]; exact A.1) (State.isArrayOf_alike hZ.alike A.2.1) A.2.2 (zq_inb S hj h0 hi) (by rw [hj]; exact H i hi) hg hs hd t k
theorem zq_len (X : Stand p l e R s m args below meth c T locs cells slots) (hx : p.tables.exec = Jvm.exec) (hZ : Z.Warmed39 s.vm) (eT : T.heap = h) (F : zq_A Z h a ty n f)
    {g : JFrame} (hg : g.method = m) {rest : List Value} (hs : g.stack = .ref a :: rest) (hd : decode c.code g.pc = .ok (.arraylength, 1)) : ∀ target, Steps p.tables e below (T.setTop { g with pc := g.pc + 1, stack := .int n.toInt32 :: rest }) target → Steps p.tables e below (T.setTop g) target := by
  obtain ⟨cl, A, S, H⟩ := F
  subst S
  exact fun t k => X.arraylength hx (by rw [eT]; exact A.1) (State.isArrayOf_alike hZ.alike A.2.1) hg hs hd t k
theorem zq_stI (X : Stand p l e R s m args below meth c T locs cells slots) (hx : p.tables.exec = Jvm.exec) (hZ : Z.Warmed39 s.vm) (eT : T.heap = h) (F : zq_A Z h a .int n f) {j x : Int32} {i : Nat} (hj : j.toNatClampNeg = i) (h0 : ¬ j < 0) (hi : i < n)
    {g : JFrame} (hg : g.method = m) {rest : List Value} (hs : g.stack = .int x :: .int j :: .ref a :: rest) (hd : decode c.code g.pc = .ok (.iastore, 1)) :
    ∃ T' h', Stand p l e R s m args below meth c T' (locs ++ [⟨a, i⟩]) cells slots ∧ T'.heap = h' ∧ Wr h h' a i (.int x) ∧ zq_A Z h' a .int n (fun k => if k = i then .int x else f k) ∧ ∀ target, Steps p.tables e below (T'.setTop { g with pc := g.pc + 1, stack := rest }) target → Steps p.tables e below (T.setTop g) target := by
  obtain ⟨cl, A, S, H⟩ := F
  subst hj
  obtain ⟨T', h', X', e', W, st⟩ := stI X hx hZ eT A (zq_inb S rfl h0 hi) hg hs hd
  exact ⟨T', h', X', e', W, zq_A.set ⟨cl, A, S, H⟩ W, st⟩
theorem zq_stB (X : Stand p l e R s m args below meth c T locs cells slots) (hx : p.tables.exec = Jvm.exec) (hZ : Z.Warmed39 s.vm) (eT : T.heap = h) (F : zq_A Z h a .byte n f) {j x : Int32} {i : Nat} (hj : j.toNatClampNeg = i) (h0 : ¬ j < 0) (hi : i < n)
    {g : JFrame} (hg : g.method = m) {rest : List Value} (hs : g.stack = .int x :: .int j :: .ref a :: rest) (hd : decode c.code g.pc = .ok (.bastore, 1)) :
    ∃ T' h', Stand p l e R s m args below meth c T' (locs ++ [⟨a, i⟩]) cells slots ∧ T'.heap = h' ∧ Wr h h' a i (.int x.toInt8.toInt32) ∧ zq_A Z h' a .byte n (fun k => if k = i then .int x.toInt8.toInt32 else f k) ∧ ∀ target, Steps p.tables e below (T'.setTop { g with pc := g.pc + 1, stack := rest }) target → Steps p.tables e below (T.setTop g) target := by
  obtain ⟨cl, A, S, H⟩ := F
  subst hj
  obtain ⟨T', h', X', e', W, st⟩ := stB X hx hZ eT A (zq_inb S rfl h0 hi) hg hs hd
  exact ⟨T', h', X', e', W, zq_A.set ⟨cl, A, S, H⟩ W, st⟩
theorem zq_stC (X : Stand p l e R s m args below meth c T locs cells slots) (hx : p.tables.exec = Jvm.exec) (hZ : Z.Warmed39 s.vm) (eT : T.heap = h) (F : zq_A Z h a .char n f) {j x : Int32} {i : Nat} (hj : j.toNatClampNeg = i) (h0 : ¬ j < 0) (hi : i < n)
    {g : JFrame} (hg : g.method = m) {rest : List Value} (hs : g.stack = .int x :: .int j :: .ref a :: rest) (hd : decode c.code g.pc = .ok (.castore, 1)) :
    ∃ T' h', Stand p l e R s m args below meth c T' (locs ++ [⟨a, i⟩]) cells slots ∧ T'.heap = h' ∧ Wr h h' a i (.int x.toUInt32.toUInt16.toUInt32.toInt32) ∧ zq_A Z h' a .char n (fun k => if k = i then .int x.toUInt32.toUInt16.toUInt32.toInt32 else f k) ∧ ∀ target, Steps p.tables e below (T'.setTop { g with pc := g.pc + 1, stack := rest }) target → Steps p.tables e below (T.setTop g) target := by
  obtain ⟨cl, A, S, H⟩ := F
  subst hj
  obtain ⟨T', h', X', e', W, st⟩ := stC X hx hZ eT A (zq_inb S rfl h0 hi) hg hs hd
  exact ⟨T', h', X', e', W, zq_A.set ⟨cl, A, S, H⟩ W, st⟩
theorem zq_stJ (X : Stand p l e R s m args below meth c T locs cells slots) (hx : p.tables.exec = Jvm.exec) (hZ : Z.Warmed39 s.vm) (eT : T.heap = h) (F : zq_A Z h a .long n f) {j : Int32} {x : Int64} {i : Nat} (hj : j.toNatClampNeg = i) (h0 : ¬ j < 0) (hi : i < n)
    {g : JFrame} (hg : g.method = m) {rest : List Value} (hs : g.stack = .long x :: .int j :: .ref a :: rest) (hd : decode c.code g.pc = .ok (.lastore, 1)) :
    ∃ T' h', Stand p l e R s m args below meth c T' (locs ++ [⟨a, i⟩]) cells slots ∧ T'.heap = h' ∧ Wr h h' a i (.long x) ∧ zq_A Z h' a .long n (fun k => if k = i then .long x else f k) ∧ ∀ target, Steps p.tables e below (T'.setTop { g with pc := g.pc + 1, stack := rest }) target → Steps p.tables e below (T.setTop g) target := by
  obtain ⟨cl, A, S, H⟩ := F
  subst hj
  obtain ⟨T', h', X', e', W, st⟩ := stJ X hx hZ eT A (zq_inb S rfl h0 hi) hg hs hd
  exact ⟨T', h', X', e', W, zq_A.set ⟨cl, A, S, H⟩ W, st⟩
theorem zq_newA (X : Stand p l e R s m args below meth c T locs cells slots) (hx : p.tables.exec = Jvm.exec) (hZ : Z.Warmed39 s.vm) {aty : ArrayType} (w : (Cond.arrayClass (newarray.typeOf aty)).before a0 Z = true) (eT : T.heap = h) {g : JFrame} (hg : g.method = m) (hd : decode c.code g.pc = .ok (.newarray aty, 2)) {j : Int32} {rest : List Value} (hs : g.stack = .int j :: rest)
    (h0 : ¬ j < 0) (hj : j.toNatClampNeg = n) {cap : Nat} (hcap : n ≤ cap) (hb : cap * 8 ≤ 536870912) (hc : cells + 1 ≤ R.cells) (hl : slots + cap ≤ R.slots) :
    ∃ T' h' b, b = h.size ∧ Stand p l e R s m args below meth c T' locs (cells + 1) (slots + cap) ∧ T'.heap = h' ∧ Ext h h' ∧ zq_A Z h' b (newarray.typeOf aty) n (fun _ => defaultValue (newarray.typeOf aty)) ∧
      ∀ target, Steps p.tables e below (T'.setTop { g with pc := g.pc + 2, stack := .ref b :: rest }) target → Steps p.tables e below (T.setTop g) target := by
  obtain ⟨T', h', cA, X', e', E', A', st⟩ := newP X hx hZ w eT hg hd hs h0 (cap := cap) (by rw [hj]; exact hcap) hb hc hl
  refine ⟨T', h', _, rfl, X', e', E', ⟨_, A', by rw [sz_new]; exact hj, fun i hi => ?_⟩, st⟩
  show (Array.replicate j.toNatClampNeg _)[i]? = _
  rw [hj, Array.getElem?_replicate, if_pos hi]
theorem zq_newO (X : Stand p l e R s m args below meth c T locs cells slots) (hx : p.tables.exec = Jvm.exec) (hZ : Z.Warmed39 s.vm) {own C : String} {index n : Nat} (hown : s.vm.findClass own = some m.cls) (w : (Cond.classLink own index C).before a0 Z = true) (wi : (Cond.instantiable C n).before a0 Z = true) (wz : (Cond.initialized C).before a0 Z = true) (eT : T.heap = h)
    {g : JFrame} (hg : g.method = m) (hd : decode c.code g.pc = .ok (.new index, 3)) (hc : cells + 1 ≤ R.cells) (hl : slots + n ≤ R.slots) :
    ∃ T' h' b, b = h.size ∧ Stand p l e R s m args below meth c T' locs (cells + 1) (slots + n) ∧ T'.heap = h' ∧ Ext h h' ∧ Exa Z h' b C ∧ (∀ {O nm d : String} {ty : FieldType}, Laid Z a0 C O nm d → parseFieldDescriptor d = some ty → Fld Z h' b O nm d (defaultValue ty)) ∧
      ∀ target, Steps p.tables e below (T'.setTop { g with pc := g.pc + 3, stack := .ref b :: g.stack }) target → Steps p.tables e below (T.setTop g) target := by
  obtain ⟨T', h', X', e', E', A', D', -, st⟩ := newO X hx hZ hown w wi wz eT hg hd hc hl
  exact ⟨T', h', _, rfl, X', e', E', A', D', st⟩
theorem zq_ne (F : a < h.size) (q : b = h.size) : a ≠ b := fun e => absurd F (by rw [e, q]; exact Nat.lt_irrefl _)
theorem zq_ne' (F : a < h.size) (q : b = h.size) : b ≠ a := fun e => absurd F (by rw [← e, q]; exact Nat.lt_irrefl _)
end Own
def zq_dl (p : Int32) (lim dl pd x n : Int64) : Int64 := if (pd + x) < p.toInt64 then dl else n + lim
def zq_pd (p : Int32) (pd x : Int64) : Int64 := if (pd + x) < p.toInt64 then pd + x else (pd + x) - ((pd + x) / p.toInt64) * p.toInt64
def zq_okp (p : Int32) : Prop := 1 ≤ p.toInt ∧ p.toInt ≤ 1073741824
def zq_okx (x : Int64) : Prop := 0 ≤ x.toInt ∧ x.toInt < 4611686018427387904
theorem zq_piece {x : Int64} {v : Int32} {c : Prop} [Decidable c] (h : v = if c then (((x &&& (15 : Int64)) + (1 : Int64)).toInt32) else (((x &&& (1073741823 : Int64)) + (1 : Int64)).toInt32)) : zq_okp v := by
  have a1 := c_maskL x 15 4 (by decide) (by decide)
  have a2 := c_maskL x 1073741823 30 (by decide) (by decide)
  have a3 := c_ladd (x &&& (15 : Int64)) 1
  have a4 := c_ladd (x &&& (1073741823 : Int64)) 1
  have a5 := c_l2i ((x &&& (15 : Int64)) + 1)
  have a6 := c_l2i ((x &&& (1073741823 : Int64)) + 1)
  have s1 : (1 : Int64).toInt = 1 := by decide
  rw [s1] at a3 a4
  rw [show ((2 ^ 4 : Nat) : Int) = 16 from rfl] at a1
  rw [show ((2 ^ 30 : Nat) : Int) = 1073741824 from rfl] at a2
  have r1 := rng64 ((x &&& (15 : Int64)) + 1)
  have r2 := rng64 ((x &&& (1073741823 : Int64)) + 1)
  have r3 := rng32 (((x &&& (15 : Int64)) + (1 : Int64)).toInt32)
  have r4 := rng32 (((x &&& (1073741823 : Int64)) + (1 : Int64)).toInt32)
  subst h
  unfold zq_okp
  split
  · omega
  · omega
theorem zq_nz {p : Int32} (h : zq_okp p) : p.toInt64 ≠ 0 := fun q => by
  have a := c_i2l p
  rw [q, show (0 : Int64).toInt = 0 from by decide] at a
  unfold zq_okp at h
  omega
theorem zq_n1 {p : Int32} (h : zq_okp p) : p.toInt64 ≠ -1 := fun q => by
  have a := c_i2l p
  rw [q, show (-1 : Int64).toInt = -1 from by decide] at a
  unfold zq_okp at h
  omega
theorem zq_three {p : Int32} (h : zq_okp p) : ((3 : Int64) * p.toInt64).toInt = 3 * p.toInt := by
  have a := c_lmul 3 p.toInt64
  rw [show (3 : Int64).toInt = 3 from by decide, c_i2l] at a
  have r := rng64 ((3 : Int64) * p.toInt64)
  unfold zq_okp at h
  omega
theorem zq_nz3 {p : Int32} (h : zq_okp p) : ((3 : Int64) * p.toInt64) ≠ 0 := fun q => by
  have a := zq_three h
  rw [q, show (0 : Int64).toInt = 0 from by decide] at a
  unfold zq_okp at h
  omega
theorem zq_x {p : Int32} (h : zq_okp p) {b v : Int64} {c : Prop} [Decidable c] (e : v = if c then ((b &&& (4611686018427387903 : Int64)) - ((b &&& (4611686018427387903 : Int64)) / ((3 : Int64) * p.toInt64)) * ((3 : Int64) * p.toInt64)) else (b &&& (4611686018427387903 : Int64))) : zq_okx v := by
  have a1 := c_maskL b 4611686018427387903 62 (by decide) (by decide)
  rw [show ((2 ^ 62 : Nat) : Int) = 4611686018427387904 from rfl] at a1
  generalize b &&& (4611686018427387903 : Int64) = m at *
  have m0 : 0 ≤ m.toInt := by omega
  have a2 := (c_lrem m ((3 : Int64) * p.toInt64) (3 * p.toInt) (zq_three h)).1 m0
  unfold zq_okp at h
  have d0 := Int.ediv_nonneg m0 (show 0 ≤ 3 * p.toInt by omega)
  have d1 := Int.mul_nonneg (show 0 ≤ 3 * p.toInt by omega) d0
  have d2 := Int.mul_ediv_add_emod m.toInt (3 * p.toInt)
  have d3 := Int.emod_nonneg m.toInt (show 3 * p.toInt ≠ 0 by omega)
  subst e
  unfold zq_okx
  split
  · rw [a2]; omega
  · omega
theorem zq_div {p : Int32} (h : zq_okp p) {x : Int64} (hx : 0 ≤ x.toInt) : (x / p.toInt64).toInt = x.toInt / p.toInt := (c_ldiv x p.toInt64 p.toInt (c_i2l p) (zq_n1 h)).1 hx
theorem zq_e1 {p : Int32} (h : zq_okp p) {x : Int64} (hx : zq_okx x) (lim d n : Int64) : zq_dl p lim d 0 x n = if (0 : Int64) < x / p.toInt64 then n + lim else d := by
  have q := zq_div h hx.1
  unfold zq_dl
  rw [Int64.zero_add]
  unfold zq_okp at h
  have g : (0 : Int64) < x / p.toInt64 ↔ ¬ x < p.toInt64 := by
    rw [Int64.lt_iff_toInt_lt, Int64.lt_iff_toInt_lt, q, c_i2l, show (0 : Int64).toInt = 0 from by decide]
    have := Int.le_ediv_iff_mul_le (a := 1) (b := x.toInt) (show 0 < p.toInt by omega)
    omega
  by_cases c : x < p.toInt64
  · rw [if_pos c, if_neg (fun z => g.mp z c)]
  · rw [if_neg c, if_pos (g.mpr c)]
theorem zq_rem {p : Int32} (h : zq_okp p) {x : Int64} (hx : zq_okx x) : (zq_pd p 0 x).toInt = x.toInt % p.toInt := by
  unfold zq_pd
  rw [Int64.zero_add]
  by_cases c : x < p.toInt64
  · rw [if_pos c]
    rw [Int64.lt_iff_toInt_lt, c_i2l] at c
    exact (Int.emod_eq_of_lt hx.1 c).symm
  · rw [if_neg c]
    exact (c_lrem x p.toInt64 p.toInt (c_i2l p)).1 hx.1
theorem zq_e2 {p : Int32} (h : zq_okp p) {x y : Int64} (hx : zq_okx x) (hy : zq_okx y) (lim d n : Int64) : zq_dl p lim d (zq_pd p 0 x) y n = if x / p.toInt64 < (x + y) / p.toInt64 then n + lim else d := by
  have q1 := zq_div h hx.1
  have q2 := zq_rem h hx
  have a1 := c_ladd (zq_pd p 0 x) y
  have a2 := c_ladd x y
  have r1 := rng64 (zq_pd p 0 x + y)
  have r2 := rng64 (x + y)
  have hp := h
  unfold zq_okp at h
  have hx' := hx
  have hy' := hy
  unfold zq_okx at hx' hy'
  have m0 := Int.emod_nonneg x.toInt (show p.toInt ≠ 0 by omega)
  have m1 := Int.emod_lt_of_pos x.toInt (show 0 < p.toInt by omega)
  have b1 : (zq_pd p 0 x + y).toInt = x.toInt % p.toInt + y.toInt := by omega
  have b2 : (x + y).toInt = x.toInt + y.toInt := by omega
  have q3 := zq_div hp (x := x + y) (by omega)
  have d1 := Int.mul_ediv_add_emod x.toInt p.toInt
  have d2 : (x.toInt + y.toInt) / p.toInt = (x.toInt % p.toInt + y.toInt) / p.toInt + x.toInt / p.toInt := by
    rw [← Int.add_mul_ediv_left (x.toInt % p.toInt + y.toInt) (x.toInt / p.toInt) (show p.toInt ≠ 0 by omega)]
    congr 1
    omega
  have g : x / p.toInt64 < (x + y) / p.toInt64 ↔ ¬ (zq_pd p 0 x + y) < p.toInt64 := by
    rw [Int64.lt_iff_toInt_lt, Int64.lt_iff_toInt_lt, q1, q3, b1, b2, d2, c_i2l]
    have := Int.le_ediv_iff_mul_le (a := 1) (b := x.toInt % p.toInt + y.toInt) (show 0 < p.toInt by omega)
    omega
  unfold zq_dl
  by_cases c : (zq_pd p 0 x + y) < p.toInt64
  · rw [if_pos c, if_neg (fun z => g.mp z c)]
  · rw [if_neg c, if_pos (g.mpr c)]
theorem zq_pn0 : plainName "com/example/epochlog/epochlog/http/ProgressDeadline" = true := by first | (simp [plainName, overriddenIn]; done) | decide +kernel
theorem zq_d1_0 : decode prog_231_method_1_code 0 = .ok (.aload_n 0, 1) := by decide +kernel
theorem zq_d1_1 : decode prog_231_method_1_code 1 = .ok (.invokespecial 1, 3) := by decide +kernel
theorem zq_d1_4 : decode prog_231_method_1_code 4 = .ok (.aload_n 0, 1) := by decide +kernel
theorem zq_d1_5 : decode prog_231_method_1_code 5 = .ok (.iload_n 1, 1) := by decide +kernel
theorem zq_d1_6 : decode prog_231_method_1_code 6 = .ok (.putfield 7, 3) := by decide +kernel
theorem zq_d1_9 : decode prog_231_method_1_code 9 = .ok (.aload_n 0, 1) := by decide +kernel
theorem zq_d1_10 : decode prog_231_method_1_code 10 = .ok (.lload_n 2, 1) := by decide +kernel
theorem zq_d1_11 : decode prog_231_method_1_code 11 = .ok (.putfield 13, 3) := by decide +kernel
theorem zq_d1_14 : decode prog_231_method_1_code 14 = .ok (.return_, 1) := by decide +kernel
theorem zq_ef1 (m : MethodId) (x0 : Addr) (x1 : Int32) (x2 : Int64) : entryFrame m #[(.ref x0), (.int x1), (.long x2)] 4 = mkF m 0 #[.val (.ref x0), .val (.int x1), .val (.long x2), .second] [] := by first | (simp [entryFrame, mkF, argsToLocals, Value.category]; done) | rfl
set_option maxRecDepth 65536 in
set_option maxHeartbeats 40000000 in
theorem zq_rmI (l : Launch) (Z : State) (a0 : Array Value) (hw : ∀ d ∈ tables_1, d.before a0 Z = true) (ws : List Jvm.Cond) (a : Addr) (x1 : Int32) (x2 : Int64) (h0 : Heap) (n0 : Nat) (u1 u2 u3 u4 : Value) (E_a : Exa Z h0 a "com/example/epochlog/epochlog/http/ProgressDeadline") (F_pieceBytes_a : Fld Z h0 a "com/example/epochlog/epochlog/http/ProgressDeadline" "pieceBytes" "I" u1) (F_limitNanos_a : Fld Z h0 a "com/example/epochlog/epochlog/http/ProgressDeadline" "limitNanos" "J" u2) (F_deadline_a : Fld Z h0 a "com/example/epochlog/epochlog/http/ProgressDeadline" "deadline" "J" u3) (F_pieceDone_a : Fld Z h0 a "com/example/epochlog/epochlog/http/ProgressDeadline" "pieceDone" "J" u4) (g_a : n0 ≤ a) :
    zq_Met l Z (⟨"com/example/epochlog/epochlog/http/ProgressDeadline", "<init>", "(IJ)V"⟩ : MethodName) prog_231_method_1_code 4 none ws ({ frames := 1, cells := 0, slots := 0, locals := 12 } : Room) #[(.ref a), (.int x1), (.long x2)] h0 (fun v h L => v = none ∧ Fr n0 L ∧ Keep h0 h [a] ∧ Fld Z h a "com/example/epochlog/epochlog/http/ProgressDeadline" "pieceBytes" "I" (.int x1) ∧ Fld Z h a "com/example/epochlog/epochlog/http/ProgressDeadline" "limitNanos" "J" (.long x2) ∧ Fld Z h a "com/example/epochlog/epochlog/http/ProgressDeadline" "deadline" "J" u3 ∧ Fld Z h a "com/example/epochlog/epochlog/http/ProgressDeadline" "pieceDone" "J" u4) := by
  refine zq_body (plainFor_of_name zq_pn0) ?_
  intro p e s m below meth c s₁ hx hZ hby hml hret hlk hown hnm X0 e0
  refine zq_go (fun _ k => castTop (zq_ef1 m a x1 x2) k) ?_
  have NF := Fr.nil n0
  have KP := Keep.refl h0 [a]
  have ZS : 0 ≤ h0.size := Nat.zero_le _
  show zq_Go p e below s _ _ _ (s₁.setTop (mkF m 0 #[.val (.ref a), .val (.int x1), .val (.long x2), .second] []))
  refine zq_go (fun _ k => XS.aloadN X0.here hx rfl (hb hby zq_d1_0) rfl rfl k) ?_
  show zq_Go p e below s _ _ _ (s₁.setTop (mkF m 1 #[.val (.ref a), .val (.int x1), .val (.long x2), .second] [(.ref a)]))
  obtain ⟨T1, X1, e1, st1⟩ := initO X0 hx hZ hown (hw _ (List.mem_of_getElem? (i := 10) rfl)) (hw _ (List.mem_of_getElem? (i := 11) rfl)) (hw _ (List.mem_of_getElem? (i := 12) rfl)) e0 (g := (mkF m 1 #[.val (.ref a), .val (.int x1), .val (.long x2), .second] [(.ref a)])) rfl (by rw [hml]; rfl) rfl (hb hby zq_d1_1) (by decide) (W := 0) (by show 2 * 0 + _ ≤ _; exact Nat.le_of_eq rfl) (by decide)
  refine zq_go st1 ?_
  show zq_Go p e below s _ _ _ (T1.setTop (mkF m 4 #[.val (.ref a), .val (.int x1), .val (.long x2), .second] []))
  refine zq_go (fun _ k => XS.aloadN X1.here hx rfl (hb hby zq_d1_4) rfl rfl k) ?_
  show zq_Go p e below s _ _ _ (T1.setTop (mkF m 5 #[.val (.ref a), .val (.int x1), .val (.long x2), .second] [(.ref a)]))
  refine zq_go (fun _ k => XS.iloadN X1.here hx rfl (hb hby zq_d1_5) rfl k) ?_
  show zq_Go p e below s _ _ _ (T1.setTop (mkF m 6 #[.val (.ref a), .val (.int x1), .val (.long x2), .second] [(.int x1), (.ref a)]))
  obtain ⟨T2, h2, X2, e2, W2, st2⟩ := putF X1 hx hZ hown (host := "") (Or.inl (hw _ (List.mem_of_getElem? (i := 13) rfl))) Via.refl e1 F_pieceBytes_a E_a (Or.inr ⟨(hw _ (List.mem_of_getElem? (i := 14) rfl)), rfl, hnm⟩) (hw _ (List.mem_of_getElem? (i := 5) rfl)) (ty := .int) (by decide) rfl rfl (g := (mkF m 6 #[.val (.ref a), .val (.int x1), .val (.long x2), .second] [(.int x1), (.ref a)])) rfl rfl (hb hby zq_d1_6)
  refine zq_go st2 ?_
  have E_a := E_a.wr W2
  have F_pieceBytes_a := F_pieceBytes_a.same W2
  have F_limitNanos_a := F_limitNanos_a.other W2 (Or.inr (slot_ne (Or.inr (hw _ (List.mem_of_getElem? (i := 16) rfl))) (Or.inr (hw _ (List.mem_of_getElem? (i := 14) rfl))) (by decide) (t := .long) (t' := .int) (by decide) (by decide)))
  have F_deadline_a := F_deadline_a.other W2 (Or.inr (slot_ne (Or.inl (hw _ (List.mem_of_getElem? (i := 23) rfl))) (Or.inr (hw _ (List.mem_of_getElem? (i := 14) rfl))) (by decide) (t := .long) (t' := .int) (by decide) (by decide)))
  have F_pieceDone_a := F_pieceDone_a.other W2 (Or.inr (slot_ne (Or.inl (hw _ (List.mem_of_getElem? (i := 25) rfl))) (Or.inr (hw _ (List.mem_of_getElem? (i := 14) rfl))) (by decide) (t := .long) (t' := .int) (by decide) (by decide)))
  have ZS := Nat.le_trans ZS (Keep.of_wr W2).1
  have KP := KP.wr W2 (Or.inl (by simp))
  obtain ⟨L2, X2, NF⟩ : ∃ L : List Loc, Stand p l e ({ frames := 1, cells := 0, slots := 0, locals := 12 } : Room) s m #[(.ref a), (.int x1), (.long x2)] below meth c T2 L 0 0 ∧ Fr n0 L := ⟨_, X2, Fr.snoc X2 NF g_a⟩
  show zq_Go p e below s _ _ _ (T2.setTop (mkF m 9 #[.val (.ref a), .val (.int x1), .val (.long x2), .second] []))
  refine zq_go (fun _ k => XS.aloadN X2.here hx rfl (hb hby zq_d1_9) rfl rfl k) ?_
  show zq_Go p e below s _ _ _ (T2.setTop (mkF m 10 #[.val (.ref a), .val (.int x1), .val (.long x2), .second] [(.ref a)]))
  refine zq_go (fun _ k => XS.lloadN X2.here hx rfl (hb hby zq_d1_10) rfl k) ?_
  show zq_Go p e below s _ _ _ (T2.setTop (mkF m 11 #[.val (.ref a), .val (.int x1), .val (.long x2), .second] [(.long x2), (.ref a)]))
  obtain ⟨T3, h3, X3, e3, W3, st3⟩ := putF X2 hx hZ hown (host := "") (Or.inl (hw _ (List.mem_of_getElem? (i := 15) rfl))) Via.refl e2 F_limitNanos_a E_a (Or.inr ⟨(hw _ (List.mem_of_getElem? (i := 16) rfl)), rfl, hnm⟩) (hw _ (List.mem_of_getElem? (i := 5) rfl)) (ty := .long) (by decide) rfl rfl (g := (mkF m 11 #[.val (.ref a), .val (.int x1), .val (.long x2), .second] [(.long x2), (.ref a)])) rfl rfl (hb hby zq_d1_11)
  refine zq_go st3 ?_
  have E_a := E_a.wr W3
  have F_pieceBytes_a := F_pieceBytes_a.other W3 (Or.inr (slot_ne (Or.inr (hw _ (List.mem_of_getElem? (i := 14) rfl))) (Or.inr (hw _ (List.mem_of_getElem? (i := 16) rfl))) (by decide) (t := .int) (t' := .long) (by decide) (by decide)))
  have F_limitNanos_a := F_limitNanos_a.same W3
  have F_deadline_a := F_deadline_a.other W3 (Or.inr (slot_ne (Or.inl (hw _ (List.mem_of_getElem? (i := 23) rfl))) (Or.inr (hw _ (List.mem_of_getElem? (i := 16) rfl))) (by decide) (t := .long) (t' := .long) (by decide) (by decide)))
  have F_pieceDone_a := F_pieceDone_a.other W3 (Or.inr (slot_ne (Or.inl (hw _ (List.mem_of_getElem? (i := 25) rfl))) (Or.inr (hw _ (List.mem_of_getElem? (i := 16) rfl))) (by decide) (t := .long) (t' := .long) (by decide) (by decide)))
  have ZS := Nat.le_trans ZS (Keep.of_wr W3).1
  have KP := KP.wr W3 (Or.inl (by simp))
  obtain ⟨L3, X3, NF⟩ : ∃ L : List Loc, Stand p l e ({ frames := 1, cells := 0, slots := 0, locals := 12 } : Room) s m #[(.ref a), (.int x1), (.long x2)] below meth c T3 L 0 0 ∧ Fr n0 L := ⟨_, X3, Fr.snoc X3 NF g_a⟩
  show zq_Go p e below s _ _ _ (T3.setTop (mkF m 14 #[.val (.ref a), .val (.int x1), .val (.long x2), .second] []))
  exact zq_ret0 X3 hx hlk hret (hb hby zq_d1_14) (by rw [e3]; exact ⟨rfl, NF, KP, F_pieceBytes_a, F_limitNanos_a, F_deadline_a, F_pieceDone_a⟩) (by decide) (by decide)
theorem zq_d3_0 : decode prog_231_method_2_code 0 = .ok (.aload_n 0, 1) := by decide +kernel
theorem zq_d3_1 : decode prog_231_method_2_code 1 = .ok (.lload_n 1, 1) := by decide +kernel
theorem zq_d3_2 : decode prog_231_method_2_code 2 = .ok (.aload_n 0, 1) := by decide +kernel
theorem zq_d3_3 : decode prog_231_method_2_code 3 = .ok (.getfield 13, 3) := by decide +kernel
theorem zq_d3_6 : decode prog_231_method_2_code 6 = .ok (.ladd, 1) := by decide +kernel
theorem zq_d3_7 : decode prog_231_method_2_code 7 = .ok (.putfield 17, 3) := by decide +kernel
theorem zq_d3_10 : decode prog_231_method_2_code 10 = .ok (.aload_n 0, 1) := by decide +kernel
theorem zq_d3_11 : decode prog_231_method_2_code 11 = .ok (.lconst 0, 1) := by decide +kernel
theorem zq_d3_12 : decode prog_231_method_2_code 12 = .ok (.putfield 20, 3) := by decide +kernel
theorem zq_d3_15 : decode prog_231_method_2_code 15 = .ok (.return_, 1) := by decide +kernel
theorem zq_ef3 (m : MethodId) (x0 : Addr) (x1 : Int64) : entryFrame m #[(.ref x0), (.long x1)] 3 = mkF m 0 #[.val (.ref x0), .val (.long x1), .second] [] := by first | (simp [entryFrame, mkF, argsToLocals, Value.category]; done) | rfl
set_option maxRecDepth 65536 in
set_option maxHeartbeats 40000000 in
theorem zq_rmS (l : Launch) (Z : State) (a0 : Array Value) (hw : ∀ d ∈ tables_1, d.before a0 Z = true) (ws : List Jvm.Cond) (a : Addr) (x1 : Int64) (h0 : Heap) (n0 : Nat) (p1 : Int32) (lim : Int64) (u3 u4 : Value) (E_a : Exa Z h0 a "com/example/epochlog/epochlog/http/ProgressDeadline") (F_pieceBytes_a : Fld Z h0 a "com/example/epochlog/epochlog/http/ProgressDeadline" "pieceBytes" "I" (.int p1)) (F_limitNanos_a : Fld Z h0 a "com/example/epochlog/epochlog/http/ProgressDeadline" "limitNanos" "J" (.long lim)) (F_deadline_a : Fld Z h0 a "com/example/epochlog/epochlog/http/ProgressDeadline" "deadline" "J" u3) (F_pieceDone_a : Fld Z h0 a "com/example/epochlog/epochlog/http/ProgressDeadline" "pieceDone" "J" u4) (g_a : n0 ≤ a) :
    zq_Met l Z (⟨"com/example/epochlog/epochlog/http/ProgressDeadline", "start", "(J)V"⟩ : MethodName) prog_231_method_2_code 3 none ws ({ frames := 0, cells := 0, slots := 0, locals := 0 } : Room) #[(.ref a), (.long x1)] h0 (fun v h L => v = none ∧ Fr n0 L ∧ Keep h0 h [a] ∧ Fld Z h a "com/example/epochlog/epochlog/http/ProgressDeadline" "pieceBytes" "I" (.int p1) ∧ Fld Z h a "com/example/epochlog/epochlog/http/ProgressDeadline" "limitNanos" "J" (.long lim) ∧ Fld Z h a "com/example/epochlog/epochlog/http/ProgressDeadline" "deadline" "J" (.long (x1 + lim)) ∧ Fld Z h a "com/example/epochlog/epochlog/http/ProgressDeadline" "pieceDone" "J" (.long (0 : Int64))) := by
  refine zq_body (plainFor_of_name zq_pn0) ?_
  intro p e s m below meth c s₁ hx hZ hby hml hret hlk hown hnm X0 e0
  refine zq_go (fun _ k => castTop (zq_ef3 m a x1) k) ?_
  have NF := Fr.nil n0
  have KP := Keep.refl h0 [a]
  have ZS : 0 ≤ h0.size := Nat.zero_le _
  show zq_Go p e below s _ _ _ (s₁.setTop (mkF m 0 #[.val (.ref a), .val (.long x1), .second] []))
  refine zq_go (fun _ k => XS.aloadN X0.here hx rfl (hb hby zq_d3_0) rfl rfl k) ?_
  show zq_Go p e below s _ _ _ (s₁.setTop (mkF m 1 #[.val (.ref a), .val (.long x1), .second] [(.ref a)]))
  refine zq_go (fun _ k => XS.lloadN X0.here hx rfl (hb hby zq_d3_1) rfl k) ?_
  show zq_Go p e below s _ _ _ (s₁.setTop (mkF m 2 #[.val (.ref a), .val (.long x1), .second] [(.long x1), (.ref a)]))
  refine zq_go (fun _ k => XS.aloadN X0.here hx rfl (hb hby zq_d3_2) rfl rfl k) ?_
  show zq_Go p e below s _ _ _ (s₁.setTop (mkF m 3 #[.val (.ref a), .val (.long x1), .second] [(.ref a), (.long x1), (.ref a)]))
  obtain ⟨T1, X1, e1, st1⟩ := getF X0 hx hZ hown (host := "") (Or.inl (hw _ (List.mem_of_getElem? (i := 15) rfl))) Via.refl e0 F_limitNanos_a (g := (mkF m 3 #[.val (.ref a), .val (.long x1), .second] [(.ref a), (.long x1), (.ref a)])) rfl rfl (hb hby zq_d3_3)
  refine zq_go st1 ?_
  show zq_Go p e below s _ _ _ (T1.setTop (mkF m 6 #[.val (.ref a), .val (.long x1), .second] [(.long lim), (.long x1), (.ref a)]))
  refine zq_go (fun _ k => XS.ladd X1.here hx rfl (hb hby zq_d3_6) rfl k) ?_
  show zq_Go p e below s _ _ _ (T1.setTop (mkF m 7 #[.val (.ref a), .val (.long x1), .second] [(.long (x1 + lim)), (.ref a)]))
  obtain ⟨T2, h2, X2, e2, W2, st2⟩ := putF X1 hx hZ hown (host := "") (Or.inl (hw _ (List.mem_of_getElem? (i := 22) rfl))) Via.refl e1 F_deadline_a E_a (Or.inl (hw _ (List.mem_of_getElem? (i := 23) rfl))) (hw _ (List.mem_of_getElem? (i := 5) rfl)) (ty := .long) (by decide) rfl rfl (g := (mkF m 7 #[.val (.ref a), .val (.long x1), .second] [(.long (x1 + lim)), (.ref a)])) rfl rfl (hb hby zq_d3_7)
  refine zq_go st2 ?_
  have E_a := E_a.wr W2
  have F_pieceBytes_a := F_pieceBytes_a.other W2 (Or.inr (slot_ne (Or.inr (hw _ (List.mem_of_getElem? (i := 14) rfl))) (Or.inl (hw _ (List.mem_of_getElem? (i := 23) rfl))) (by decide) (t := .int) (t' := .long) (by decide) (by decide)))
  have F_limitNanos_a := F_limitNanos_a.other W2 (Or.inr (slot_ne (Or.inr (hw _ (List.mem_of_getElem? (i := 16) rfl))) (Or.inl (hw _ (List.mem_of_getElem? (i := 23) rfl))) (by decide) (t := .long) (t' := .long) (by decide) (by decide)))
  have F_deadline_a := F_deadline_a.same W2
  have F_pieceDone_a := F_pieceDone_a.other W2 (Or.inr (slot_ne (Or.inl (hw _ (List.mem_of_getElem? (i := 25) rfl))) (Or.inl (hw _ (List.mem_of_getElem? (i := 23) rfl))) (by decide) (t := .long) (t' := .long) (by decide) (by decide)))
  have ZS := Nat.le_trans ZS (Keep.of_wr W2).1
  have KP := KP.wr W2 (Or.inl (by simp))
  obtain ⟨L2, X2, NF⟩ : ∃ L : List Loc, Stand p l e ({ frames := 0, cells := 0, slots := 0, locals := 0 } : Room) s m #[(.ref a), (.long x1)] below meth c T2 L 0 0 ∧ Fr n0 L := ⟨_, X2, Fr.snoc X2 NF g_a⟩
  show zq_Go p e below s _ _ _ (T2.setTop (mkF m 10 #[.val (.ref a), .val (.long x1), .second] []))
  refine zq_go (fun _ k => XS.aloadN X2.here hx rfl (hb hby zq_d3_10) rfl rfl k) ?_
  show zq_Go p e below s _ _ _ (T2.setTop (mkF m 11 #[.val (.ref a), .val (.long x1), .second] [(.ref a)]))
  refine zq_go (fun _ k => XS.lconst X2.here hx rfl (hb hby zq_d3_11) k) ?_
  show zq_Go p e below s _ _ _ (T2.setTop (mkF m 12 #[.val (.ref a), .val (.long x1), .second] [(.long (0 : Int64)), (.ref a)]))
  obtain ⟨T3, h3, X3, e3, W3, st3⟩ := putF X2 hx hZ hown (host := "") (Or.inl (hw _ (List.mem_of_getElem? (i := 24) rfl))) Via.refl e2 F_pieceDone_a E_a (Or.inl (hw _ (List.mem_of_getElem? (i := 25) rfl))) (hw _ (List.mem_of_getElem? (i := 5) rfl)) (ty := .long) (by decide) rfl rfl (g := (mkF m 12 #[.val (.ref a), .val (.long x1), .second] [(.long (0 : Int64)), (.ref a)])) rfl rfl (hb hby zq_d3_12)
  refine zq_go st3 ?_
  have E_a := E_a.wr W3
  have F_pieceBytes_a := F_pieceBytes_a.other W3 (Or.inr (slot_ne (Or.inr (hw _ (List.mem_of_getElem? (i := 14) rfl))) (Or.inl (hw _ (List.mem_of_getElem? (i := 25) rfl))) (by decide) (t := .int) (t' := .long) (by decide) (by decide)))
  have F_limitNanos_a := F_limitNanos_a.other W3 (Or.inr (slot_ne (Or.inr (hw _ (List.mem_of_getElem? (i := 16) rfl))) (Or.inl (hw _ (List.mem_of_getElem? (i := 25) rfl))) (by decide) (t := .long) (t' := .long) (by decide) (by decide)))
  have F_deadline_a := F_deadline_a.other W3 (Or.inr (slot_ne (Or.inl (hw _ (List.mem_of_getElem? (i := 23) rfl))) (Or.inl (hw _ (List.mem_of_getElem? (i := 25) rfl))) (by decide) (t := .long) (t' := .long) (by decide) (by decide)))
  have F_pieceDone_a := F_pieceDone_a.same W3
  have ZS := Nat.le_trans ZS (Keep.of_wr W3).1
  have KP := KP.wr W3 (Or.inl (by simp))
  obtain ⟨L3, X3, NF⟩ : ∃ L : List Loc, Stand p l e ({ frames := 0, cells := 0, slots := 0, locals := 0 } : Room) s m #[(.ref a), (.long x1)] below meth c T3 L 0 0 ∧ Fr n0 L := ⟨_, X3, Fr.snoc X3 NF g_a⟩
  show zq_Go p e below s _ _ _ (T3.setTop (mkF m 15 #[.val (.ref a), .val (.long x1), .second] []))
  exact zq_ret0 X3 hx hlk hret (hb hby zq_d3_15) (by rw [e3]; exact ⟨rfl, NF, KP, F_pieceBytes_a, F_limitNanos_a, F_deadline_a, F_pieceDone_a⟩) (by decide) (by decide)
theorem zq_d4_0 : decode prog_231_method_3_code 0 = .ok (.aload_n 0, 1) := by decide +kernel
theorem zq_d4_1 : decode prog_231_method_3_code 1 = .ok (.dup, 1) := by decide +kernel
theorem zq_d4_2 : decode prog_231_method_3_code 2 = .ok (.getfield 20, 3) := by decide +kernel
theorem zq_d4_5 : decode prog_231_method_3_code 5 = .ok (.lload_n 1, 1) := by decide +kernel
theorem zq_d4_6 : decode prog_231_method_3_code 6 = .ok (.ladd, 1) := by decide +kernel
theorem zq_d4_7 : decode prog_231_method_3_code 7 = .ok (.putfield 20, 3) := by decide +kernel
theorem zq_d4_10 : decode prog_231_method_3_code 10 = .ok (.aload_n 0, 1) := by decide +kernel
theorem zq_d4_11 : decode prog_231_method_3_code 11 = .ok (.getfield 20, 3) := by decide +kernel
theorem zq_d4_14 : decode prog_231_method_3_code 14 = .ok (.aload_n 0, 1) := by decide +kernel
theorem zq_d4_15 : decode prog_231_method_3_code 15 = .ok (.getfield 7, 3) := by decide +kernel
theorem zq_d4_18 : decode prog_231_method_3_code 18 = .ok (.i2l, 1) := by decide +kernel
theorem zq_d4_19 : decode prog_231_method_3_code 19 = .ok (.lcmp, 1) := by decide +kernel
theorem zq_d4_20 : decode prog_231_method_3_code 20 = .ok (.ifCond .lt 27, 3) := by decide +kernel
theorem zq_d4_23 : decode prog_231_method_3_code 23 = .ok (.aload_n 0, 1) := by decide +kernel
theorem zq_d4_24 : decode prog_231_method_3_code 24 = .ok (.dup, 1) := by decide +kernel
theorem zq_d4_25 : decode prog_231_method_3_code 25 = .ok (.getfield 20, 3) := by decide +kernel
theorem zq_d4_28 : decode prog_231_method_3_code 28 = .ok (.aload_n 0, 1) := by decide +kernel
theorem zq_d4_29 : decode prog_231_method_3_code 29 = .ok (.getfield 7, 3) := by decide +kernel
theorem zq_d4_32 : decode prog_231_method_3_code 32 = .ok (.i2l, 1) := by decide +kernel
theorem zq_d4_33 : decode prog_231_method_3_code 33 = .ok (.lrem, 1) := by decide +kernel
theorem zq_d4_34 : decode prog_231_method_3_code 34 = .ok (.putfield 20, 3) := by decide +kernel
theorem zq_d4_37 : decode prog_231_method_3_code 37 = .ok (.aload_n 0, 1) := by decide +kernel
theorem zq_d4_38 : decode prog_231_method_3_code 38 = .ok (.lload_n 3, 1) := by decide +kernel
theorem zq_d4_39 : decode prog_231_method_3_code 39 = .ok (.aload_n 0, 1) := by decide +kernel
theorem zq_d4_40 : decode prog_231_method_3_code 40 = .ok (.getfield 13, 3) := by decide +kernel
theorem zq_d4_43 : decode prog_231_method_3_code 43 = .ok (.ladd, 1) := by decide +kernel
theorem zq_d4_44 : decode prog_231_method_3_code 44 = .ok (.putfield 17, 3) := by decide +kernel
theorem zq_d4_47 : decode prog_231_method_3_code 47 = .ok (.return_, 1) := by decide +kernel
theorem zq_ef4 (m : MethodId) (x0 : Addr) (x1 : Int64) (x2 : Int64) : entryFrame m #[(.ref x0), (.long x1), (.long x2)] 5 = mkF m 0 #[.val (.ref x0), .val (.long x1), .second, .val (.long x2), .second] [] := by first | (simp [entryFrame, mkF, argsToLocals, Value.category]; done) | rfl
set_option maxRecDepth 65536 in
set_option maxHeartbeats 40000000 in
theorem zq_rmA (l : Launch) (Z : State) (a0 : Array Value) (hw : ∀ d ∈ tables_1, d.before a0 Z = true) (ws : List Jvm.Cond) (a : Addr) (x1 : Int64) (x2 : Int64) (h0 : Heap) (n0 : Nat) (p1 : Int32) (lim dl pd : Int64) (E_a : Exa Z h0 a "com/example/epochlog/epochlog/http/ProgressDeadline") (F_pieceBytes_a : Fld Z h0 a "com/example/epochlog/epochlog/http/ProgressDeadline" "pieceBytes" "I" (.int p1)) (F_limitNanos_a : Fld Z h0 a "com/example/epochlog/epochlog/http/ProgressDeadline" "limitNanos" "J" (.long lim)) (F_deadline_a : Fld Z h0 a "com/example/epochlog/epochlog/http/ProgressDeadline" "deadline" "J" (.long dl)) (F_pieceDone_a : Fld Z h0 a "com/example/epochlog/epochlog/http/ProgressDeadline" "pieceDone" "J" (.long pd)) (g_a : n0 ≤ a) (hp : p1.toInt64 ≠ 0) :
    zq_Met l Z (⟨"com/example/epochlog/epochlog/http/ProgressDeadline", "advanced", "(JJ)V"⟩ : MethodName) prog_231_method_3_code 5 none ws ({ frames := 0, cells := 0, slots := 0, locals := 0 } : Room) #[(.ref a), (.long x1), (.long x2)] h0 (fun v h L => v = none ∧ Fr n0 L ∧ Keep h0 h [a] ∧ Fld Z h a "com/example/epochlog/epochlog/http/ProgressDeadline" "pieceBytes" "I" (.int p1) ∧ Fld Z h a "com/example/epochlog/epochlog/http/ProgressDeadline" "limitNanos" "J" (.long lim) ∧ Fld Z h a "com/example/epochlog/epochlog/http/ProgressDeadline" "deadline" "J" (.long (zq_dl p1 lim dl pd x1 x2)) ∧ Fld Z h a "com/example/epochlog/epochlog/http/ProgressDeadline" "pieceDone" "J" (.long (zq_pd p1 pd x1))) := by
  refine zq_body (plainFor_of_name zq_pn0) ?_
  intro p e s m below meth c s₁ hx hZ hby hml hret hlk hown hnm X0 e0
  refine zq_go (fun _ k => castTop (zq_ef4 m a x1 x2) k) ?_
  have NF := Fr.nil n0
  have KP := Keep.refl h0 [a]
  have ZS : 0 ≤ h0.size := Nat.zero_le _
  show zq_Go p e below s _ _ _ (s₁.setTop (mkF m 0 #[.val (.ref a), .val (.long x1), .second, .val (.long x2), .second] []))
  refine zq_go (fun _ k => XS.aloadN X0.here hx rfl (hb hby zq_d4_0) rfl rfl k) ?_
  show zq_Go p e below s _ _ _ (s₁.setTop (mkF m 1 #[.val (.ref a), .val (.long x1), .second, .val (.long x2), .second] [(.ref a)]))
  refine zq_go (fun _ k => XS.dup X0.here hx rfl (hb hby zq_d4_1) rfl rfl k) ?_
  show zq_Go p e below s _ _ _ (s₁.setTop (mkF m 2 #[.val (.ref a), .val (.long x1), .second, .val (.long x2), .second] [(.ref a), (.ref a)]))
  obtain ⟨T1, X1, e1, st1⟩ := getF X0 hx hZ hown (host := "") (Or.inl (hw _ (List.mem_of_getElem? (i := 24) rfl))) Via.refl e0 F_pieceDone_a (g := (mkF m 2 #[.val (.ref a), .val (.long x1), .second, .val (.long x2), .second] [(.ref a), (.ref a)])) rfl rfl (hb hby zq_d4_2)
  refine zq_go st1 ?_
  show zq_Go p e below s _ _ _ (T1.setTop (mkF m 5 #[.val (.ref a), .val (.long x1), .second, .val (.long x2), .second] [(.long pd), (.ref a)]))
  refine zq_go (fun _ k => XS.lloadN X1.here hx rfl (hb hby zq_d4_5) rfl k) ?_
  show zq_Go p e below s _ _ _ (T1.setTop (mkF m 6 #[.val (.ref a), .val (.long x1), .second, .val (.long x2), .second] [(.long x1), (.long pd), (.ref a)]))
  refine zq_go (fun _ k => XS.ladd X1.here hx rfl (hb hby zq_d4_6) rfl k) ?_
  show zq_Go p e below s _ _ _ (T1.setTop (mkF m 7 #[.val (.ref a), .val (.long x1), .second, .val (.long x2), .second] [(.long (pd + x1)), (.ref a)]))
  obtain ⟨T2, h2, X2, e2, W2, st2⟩ := putF X1 hx hZ hown (host := "") (Or.inl (hw _ (List.mem_of_getElem? (i := 24) rfl))) Via.refl e1 F_pieceDone_a E_a (Or.inl (hw _ (List.mem_of_getElem? (i := 25) rfl))) (hw _ (List.mem_of_getElem? (i := 5) rfl)) (ty := .long) (by decide) rfl rfl (g := (mkF m 7 #[.val (.ref a), .val (.long x1), .second, .val (.long x2), .second] [(.long (pd + x1)), (.ref a)])) rfl rfl (hb hby zq_d4_7)
  refine zq_go st2 ?_
  have E_a := E_a.wr W2
  have F_pieceBytes_a := F_pieceBytes_a.other W2 (Or.inr (slot_ne (Or.inr (hw _ (List.mem_of_getElem? (i := 14) rfl))) (Or.inl (hw _ (List.mem_of_getElem? (i := 25) rfl))) (by decide) (t := .int) (t' := .long) (by decide) (by decide)))
  have F_limitNanos_a := F_limitNanos_a.other W2 (Or.inr (slot_ne (Or.inr (hw _ (List.mem_of_getElem? (i := 16) rfl))) (Or.inl (hw _ (List.mem_of_getElem? (i := 25) rfl))) (by decide) (t := .long) (t' := .long) (by decide) (by decide)))
  have F_deadline_a := F_deadline_a.other W2 (Or.inr (slot_ne (Or.inl (hw _ (List.mem_of_getElem? (i := 23) rfl))) (Or.inl (hw _ (List.mem_of_getElem? (i := 25) rfl))) (by decide) (t := .long) (t' := .long) (by decide) (by decide)))
  have F_pieceDone_a := F_pieceDone_a.same W2
  have ZS := Nat.le_trans ZS (Keep.of_wr W2).1
  have KP := KP.wr W2 (Or.inl (by simp))
  obtain ⟨L2, X2, NF⟩ : ∃ L : List Loc, Stand p l e ({ frames := 0, cells := 0, slots := 0, locals := 0 } : Room) s m #[(.ref a), (.long x1), (.long x2)] below meth c T2 L 0 0 ∧ Fr n0 L := ⟨_, X2, Fr.snoc X2 NF g_a⟩
  show zq_Go p e below s _ _ _ (T2.setTop (mkF m 10 #[.val (.ref a), .val (.long x1), .second, .val (.long x2), .second] []))
  refine zq_go (fun _ k => XS.aloadN X2.here hx rfl (hb hby zq_d4_10) rfl rfl k) ?_
  show zq_Go p e below s _ _ _ (T2.setTop (mkF m 11 #[.val (.ref a), .val (.long x1), .second, .val (.long x2), .second] [(.ref a)]))
  obtain ⟨T3, X3, e3, st3⟩ := getF X2 hx hZ hown (host := "") (Or.inl (hw _ (List.mem_of_getElem? (i := 24) rfl))) Via.refl e2 F_pieceDone_a (g := (mkF m 11 #[.val (.ref a), .val (.long x1), .second, .val (.long x2), .second] [(.ref a)])) rfl rfl (hb hby zq_d4_11)
  refine zq_go st3 ?_
  show zq_Go p e below s _ _ _ (T3.setTop (mkF m 14 #[.val (.ref a), .val (.long x1), .second, .val (.long x2), .second] [(.long (pd + x1))]))
  refine zq_go (fun _ k => XS.aloadN X3.here hx rfl (hb hby zq_d4_14) rfl rfl k) ?_
  show zq_Go p e below s _ _ _ (T3.setTop (mkF m 15 #[.val (.ref a), .val (.long x1), .second, .val (.long x2), .second] [(.ref a), (.long (pd + x1))]))
  obtain ⟨T4, X4, e4, st4⟩ := getF X3 hx hZ hown (host := "") (Or.inl (hw _ (List.mem_of_getElem? (i := 13) rfl))) Via.refl e3 F_pieceBytes_a (g := (mkF m 15 #[.val (.ref a), .val (.long x1), .second, .val (.long x2), .second] [(.ref a), (.long (pd + x1))])) rfl rfl (hb hby zq_d4_15)
  refine zq_go st4 ?_
  show zq_Go p e below s _ _ _ (T4.setTop (mkF m 18 #[.val (.ref a), .val (.long x1), .second, .val (.long x2), .second] [(.int p1), (.long (pd + x1))]))
  refine zq_go (fun _ k => XS.i2l X4.here hx rfl (hb hby zq_d4_18) rfl k) ?_
  show zq_Go p e below s _ _ _ (T4.setTop (mkF m 19 #[.val (.ref a), .val (.long x1), .second, .val (.long x2), .second] [(.long (p1.toInt64)), (.long (pd + x1))]))
  refine zq_go (fun _ k => XS.lcmp X4.here hx rfl (hb hby zq_d4_19) rfl k) ?_
  show zq_Go p e below s _ _ _ (T4.setTop (mkF m 20 #[.val (.ref a), .val (.long x1), .second, .val (.long x2), .second] [(.int (lcmpW (pd + x1) (p1.toInt64)))]))
  by_cases hc20 : (pd + x1) < (p1.toInt64)
  ·
    refine zq_go (fun _ k => XS.ifYes X4.here hx rfl (pc0 := 20) (pc' := 47) rfl (hb hby zq_d4_20) rfl ((if0 _ _).trans (tlt ((lw_lt _ _).mpr hc20)).1) (by decide) (by decide) k) ?_
    show zq_Go p e below s _ _ _ (T4.setTop (mkF m 47 #[.val (.ref a), .val (.long x1), .second, .val (.long x2), .second] []))
    exact zq_ret0 X4 hx hlk hret (hb hby zq_d4_47) (by rw [e4]; exact ⟨rfl, NF, KP, F_pieceBytes_a, F_limitNanos_a, by unfold zq_dl; rw [if_pos hc20]; exact F_deadline_a, by unfold zq_pd; rw [if_pos hc20]; exact F_pieceDone_a⟩) (by decide) (by decide)
  refine zq_go (fun _ k => XS.ifNo X4.here hx rfl (hb hby zq_d4_20) rfl ((if0 _ _).trans (flt (fun q => hc20 ((lw_lt _ _).mp q))).1) k) ?_
  show zq_Go p e below s _ _ _ (T4.setTop (mkF m 23 #[.val (.ref a), .val (.long x1), .second, .val (.long x2), .second] []))
  refine zq_go (fun _ k => XS.aloadN X4.here hx rfl (hb hby zq_d4_23) rfl rfl k) ?_
  show zq_Go p e below s _ _ _ (T4.setTop (mkF m 24 #[.val (.ref a), .val (.long x1), .second, .val (.long x2), .second] [(.ref a)]))
  refine zq_go (fun _ k => XS.dup X4.here hx rfl (hb hby zq_d4_24) rfl rfl k) ?_
  show zq_Go p e below s _ _ _ (T4.setTop (mkF m 25 #[.val (.ref a), .val (.long x1), .second, .val (.long x2), .second] [(.ref a), (.ref a)]))
  obtain ⟨T5, X5, e5, st5⟩ := getF X4 hx hZ hown (host := "") (Or.inl (hw _ (List.mem_of_getElem? (i := 24) rfl))) Via.refl e4 F_pieceDone_a (g := (mkF m 25 #[.val (.ref a), .val (.long x1), .second, .val (.long x2), .second] [(.ref a), (.ref a)])) rfl rfl (hb hby zq_d4_25)
  refine zq_go st5 ?_
  show zq_Go p e below s _ _ _ (T5.setTop (mkF m 28 #[.val (.ref a), .val (.long x1), .second, .val (.long x2), .second] [(.long (pd + x1)), (.ref a)]))
  refine zq_go (fun _ k => XS.aloadN X5.here hx rfl (hb hby zq_d4_28) rfl rfl k) ?_
  show zq_Go p e below s _ _ _ (T5.setTop (mkF m 29 #[.val (.ref a), .val (.long x1), .second, .val (.long x2), .second] [(.ref a), (.long (pd + x1)), (.ref a)]))
  obtain ⟨T6, X6, e6, st6⟩ := getF X5 hx hZ hown (host := "") (Or.inl (hw _ (List.mem_of_getElem? (i := 13) rfl))) Via.refl e5 F_pieceBytes_a (g := (mkF m 29 #[.val (.ref a), .val (.long x1), .second, .val (.long x2), .second] [(.ref a), (.long (pd + x1)), (.ref a)])) rfl rfl (hb hby zq_d4_29)
  refine zq_go st6 ?_
  show zq_Go p e below s _ _ _ (T6.setTop (mkF m 32 #[.val (.ref a), .val (.long x1), .second, .val (.long x2), .second] [(.int p1), (.long (pd + x1)), (.ref a)]))
  refine zq_go (fun _ k => XS.i2l X6.here hx rfl (hb hby zq_d4_32) rfl k) ?_
  show zq_Go p e below s _ _ _ (T6.setTop (mkF m 33 #[.val (.ref a), .val (.long x1), .second, .val (.long x2), .second] [(.long (p1.toInt64)), (.long (pd + x1)), (.ref a)]))
  refine zq_go (fun _ k => XS.lrem X6.here hx rfl (hb hby zq_d4_33) rfl hp k) ?_
  show zq_Go p e below s _ _ _ (T6.setTop (mkF m 34 #[.val (.ref a), .val (.long x1), .second, .val (.long x2), .second] [(.long ((pd + x1) - ((pd + x1) / (p1.toInt64)) * (p1.toInt64))), (.ref a)]))
  obtain ⟨T7, h7, X7, e7, W7, st7⟩ := putF X6 hx hZ hown (host := "") (Or.inl (hw _ (List.mem_of_getElem? (i := 24) rfl))) Via.refl e6 F_pieceDone_a E_a (Or.inl (hw _ (List.mem_of_getElem? (i := 25) rfl))) (hw _ (List.mem_of_getElem? (i := 5) rfl)) (ty := .long) (by decide) rfl rfl (g := (mkF m 34 #[.val (.ref a), .val (.long x1), .second, .val (.long x2), .second] [(.long ((pd + x1) - ((pd + x1) / (p1.toInt64)) * (p1.toInt64))), (.ref a)])) rfl rfl (hb hby zq_d4_34)
  refine zq_go st7 ?_
  have E_a := E_a.wr W7
  have F_pieceBytes_a := F_pieceBytes_a.other W7 (Or.inr (slot_ne (Or.inr (hw _ (List.mem_of_getElem? (i := 14) rfl))) (Or.inl (hw _ (List.mem_of_getElem? (i := 25) rfl))) (by decide) (t := .int) (t' := .long) (by decide) (by decide)))
  have F_limitNanos_a := F_limitNanos_a.other W7 (Or.inr (slot_ne (Or.inr (hw _ (List.mem_of_getElem? (i := 16) rfl))) (Or.inl (hw _ (List.mem_of_getElem? (i := 25) rfl))) (by decide) (t := .long) (t' := .long) (by decide) (by decide)))
  have F_deadline_a := F_deadline_a.other W7 (Or.inr (slot_ne (Or.inl (hw _ (List.mem_of_getElem? (i := 23) rfl))) (Or.inl (hw _ (List.mem_of_getElem? (i := 25) rfl))) (by decide) (t := .long) (t' := .long) (by decide) (by decide)))
  have F_pieceDone_a := F_pieceDone_a.same W7
  have ZS := Nat.le_trans ZS (Keep.of_wr W7).1
  have KP := KP.wr W7 (Or.inl (by simp))
  obtain ⟨L7, X7, NF⟩ : ∃ L : List Loc, Stand p l e ({ frames := 0, cells := 0, slots := 0, locals := 0 } : Room) s m #[(.ref a), (.long x1), (.long x2)] below meth c T7 L 0 0 ∧ Fr n0 L := ⟨_, X7, Fr.snoc X7 NF g_a⟩
  show zq_Go p e below s _ _ _ (T7.setTop (mkF m 37 #[.val (.ref a), .val (.long x1), .second, .val (.long x2), .second] []))
  refine zq_go (fun _ k => XS.aloadN X7.here hx rfl (hb hby zq_d4_37) rfl rfl k) ?_
  show zq_Go p e below s _ _ _ (T7.setTop (mkF m 38 #[.val (.ref a), .val (.long x1), .second, .val (.long x2), .second] [(.ref a)]))
  refine zq_go (fun _ k => XS.lloadN X7.here hx rfl (hb hby zq_d4_38) rfl k) ?_
  show zq_Go p e below s _ _ _ (T7.setTop (mkF m 39 #[.val (.ref a), .val (.long x1), .second, .val (.long x2), .second] [(.long x2), (.ref a)]))
  refine zq_go (fun _ k => XS.aloadN X7.here hx rfl (hb hby zq_d4_39) rfl rfl k) ?_
  show zq_Go p e below s _ _ _ (T7.setTop (mkF m 40 #[.val (.ref a), .val (.long x1), .second, .val (.long x2), .second] [(.ref a), (.long x2), (.ref a)]))
  obtain ⟨T8, X8, e8, st8⟩ := getF X7 hx hZ hown (host := "") (Or.inl (hw _ (List.mem_of_getElem? (i := 15) rfl))) Via.refl e7 F_limitNanos_a (g := (mkF m 40 #[.val (.ref a), .val (.long x1), .second, .val (.long x2), .second] [(.ref a), (.long x2), (.ref a)])) rfl rfl (hb hby zq_d4_40)
  refine zq_go st8 ?_
  show zq_Go p e below s _ _ _ (T8.setTop (mkF m 43 #[.val (.ref a), .val (.long x1), .second, .val (.long x2), .second] [(.long lim), (.long x2), (.ref a)]))
  refine zq_go (fun _ k => XS.ladd X8.here hx rfl (hb hby zq_d4_43) rfl k) ?_
  show zq_Go p e below s _ _ _ (T8.setTop (mkF m 44 #[.val (.ref a), .val (.long x1), .second, .val (.long x2), .second] [(.long (x2 + lim)), (.ref a)]))
  obtain ⟨T9, h9, X9, e9, W9, st9⟩ := putF X8 hx hZ hown (host := "") (Or.inl (hw _ (List.mem_of_getElem? (i := 22) rfl))) Via.refl e8 F_deadline_a E_a (Or.inl (hw _ (List.mem_of_getElem? (i := 23) rfl))) (hw _ (List.mem_of_getElem? (i := 5) rfl)) (ty := .long) (by decide) rfl rfl (g := (mkF m 44 #[.val (.ref a), .val (.long x1), .second, .val (.long x2), .second] [(.long (x2 + lim)), (.ref a)])) rfl rfl (hb hby zq_d4_44)
  refine zq_go st9 ?_
  have E_a := E_a.wr W9
  have F_pieceBytes_a := F_pieceBytes_a.other W9 (Or.inr (slot_ne (Or.inr (hw _ (List.mem_of_getElem? (i := 14) rfl))) (Or.inl (hw _ (List.mem_of_getElem? (i := 23) rfl))) (by decide) (t := .int) (t' := .long) (by decide) (by decide)))
  have F_limitNanos_a := F_limitNanos_a.other W9 (Or.inr (slot_ne (Or.inr (hw _ (List.mem_of_getElem? (i := 16) rfl))) (Or.inl (hw _ (List.mem_of_getElem? (i := 23) rfl))) (by decide) (t := .long) (t' := .long) (by decide) (by decide)))
  have F_deadline_a := F_deadline_a.same W9
  have F_pieceDone_a := F_pieceDone_a.other W9 (Or.inr (slot_ne (Or.inl (hw _ (List.mem_of_getElem? (i := 25) rfl))) (Or.inl (hw _ (List.mem_of_getElem? (i := 23) rfl))) (by decide) (t := .long) (t' := .long) (by decide) (by decide)))
  have ZS := Nat.le_trans ZS (Keep.of_wr W9).1
  have KP := KP.wr W9 (Or.inl (by simp))
  obtain ⟨L9, X9, NF⟩ : ∃ L : List Loc, Stand p l e ({ frames := 0, cells := 0, slots := 0, locals := 0 } : Room) s m #[(.ref a), (.long x1), (.long x2)] below meth c T9 L 0 0 ∧ Fr n0 L := ⟨_, X9, Fr.snoc X9 NF g_a⟩
  show zq_Go p e below s _ _ _ (T9.setTop (mkF m 47 #[.val (.ref a), .val (.long x1), .second, .val (.long x2), .second] []))
  exact zq_ret0 X9 hx hlk hret (hb hby zq_d4_47) (by rw [e9]; exact ⟨rfl, NF, KP, F_pieceBytes_a, F_limitNanos_a, by unfold zq_dl; rw [if_neg hc20]; exact F_deadline_a, by unfold zq_pd; rw [if_neg hc20]; exact F_pieceDone_a⟩) (by decide) (by decide)
theorem zq_d5_0 : decode prog_231_method_4_code 0 = .ok (.aload_n 0, 1) := by decide +kernel
theorem zq_d5_1 : decode prog_231_method_4_code 1 = .ok (.getfield 17, 3) := by decide +kernel
theorem zq_d5_4 : decode prog_231_method_4_code 4 = .ok (.lreturn, 1) := by decide +kernel
theorem zq_ef5 (m : MethodId) (x0 : Addr) : entryFrame m #[(.ref x0)] 1 = mkF m 0 #[.val (.ref x0)] [] := by first | (simp [entryFrame, mkF, argsToLocals, Value.category]; done) | rfl
set_option maxRecDepth 65536 in
set_option maxHeartbeats 40000000 in
theorem zq_rmD (l : Launch) (Z : State) (a0 : Array Value) (hw : ∀ d ∈ tables_1, d.before a0 Z = true) (ws : List Jvm.Cond) (a : Addr) (h0 : Heap) (dl : Int64) (F_deadline_a : Fld Z h0 a "com/example/epochlog/epochlog/http/ProgressDeadline" "deadline" "J" (.long dl)) :
    zq_Met l Z (⟨"com/example/epochlog/epochlog/http/ProgressDeadline", "deadline", "()J"⟩ : MethodName) prog_231_method_4_code 1 (some .long) ws ({ frames := 0, cells := 0, slots := 0, locals := 0 } : Room) #[(.ref a)] h0 (zq_pure (.long dl) h0) := by
  refine zq_body (plainFor_of_name zq_pn0) ?_
  intro p e s m below meth c s₁ hx hZ hby hml hret hlk hown hnm X0 e0
  refine zq_go (fun _ k => castTop (zq_ef5 m a) k) ?_
  show zq_Go p e below s _ _ _ (s₁.setTop (mkF m 0 #[.val (.ref a)] []))
  refine zq_go (fun _ k => XS.aloadN X0.here hx rfl (hb hby zq_d5_0) rfl rfl k) ?_
  show zq_Go p e below s _ _ _ (s₁.setTop (mkF m 1 #[.val (.ref a)] [(.ref a)]))
  obtain ⟨T1, X1, e1, st1⟩ := getF X0 hx hZ hown (host := "") (Or.inl (hw _ (List.mem_of_getElem? (i := 22) rfl))) Via.refl e0 F_deadline_a (g := (mkF m 1 #[.val (.ref a)] [(.ref a)])) rfl rfl (hb hby zq_d5_1)
  refine zq_go st1 ?_
  show zq_Go p e below s _ _ _ (T1.setTop (mkF m 4 #[.val (.ref a)] [(.long dl)]))
  exact zq_retJ X1 hx hlk hret (hb hby zq_d5_4) ⟨rfl, rfl, e1⟩ (by decide) (by decide)
theorem zq_pn1 : plainName "com/example/epochlog/epochlog/http/ProgressDeadlineAdvancedPinLaw" = true := by first | (simp [plainName, overriddenIn]; done) | decide +kernel
theorem zq_pd2 : parseMethodDescriptor "(IJ)V" = some ⟨[.int, .long], none⟩ := by decide +kernel
theorem zq_pd3 : parseMethodDescriptor "(J)V" = some ⟨[.long], none⟩ := by decide +kernel
theorem zq_pd4 : parseMethodDescriptor "(JJ)V" = some ⟨[.long, .long], none⟩ := by decide +kernel
theorem zq_pd5 : parseMethodDescriptor "()J" = some ⟨[], some .long⟩ := by decide +kernel
theorem zq_ef0 (m : MethodId) (x0 : Int64) (x1 : Int64) (x2 : Int64) (x3 : Int64) (x4 : Int64) (x5 : Int64) : entryFrame m #[(.long x0), (.long x1), (.long x2), (.long x3), (.long x4), (.long x5)] maxLocals = mkF m 0 #[.val (.long x0), .second, .val (.long x1), .second, .val (.long x2), .second, .val (.long x3), .second, .val (.long x4), .second, .val (.long x5), .second, .unset, .unset, .unset, .unset, .unset, .unset, .unset, .unset, .unset, .unset, .unset, .unset, .unset, .unset, .unset, .unset, .unset, .unset, .unset, .unset, .unset, .unset] [] := by first | (simp [entryFrame, mkF, argsToLocals, Value.category, maxLocals]; done) | rfl
set_option maxRecDepth 65536 in
set_option maxHeartbeats 40000000 in
theorem zq_rm0 (l : Launch) (Z : State) (a0 : Array Value) (hw : ∀ d ∈ tables_1, d.before a0 Z = true) (ws : List Jvm.Cond) (x0 : Int64) (x1 : Int64) (x2 : Int64) (x3 : Int64) (x4 : Int64) (x5 : Int64) (h0 : Heap) :
    zq_Met l Z x code maxLocals ret ws room_1 #[(.long x0), (.long x1), (.long x2), (.long x3), (.long x4), (.long x5)] h0 (zq_one h0.size) := by
  refine zq_body (plainFor_of_name zq_pn1) ?_
  intro p e s m below meth c s₁ hx hZ hby hml hret hlk hown hnm X0 e0
  refine zq_go (fun _ k => castTop (zq_ef0 m x0 x1 x2 x3 x4 x5) k) ?_
  have NF := Fr.nil h0.size
  have ZS : h0.size ≤ h0.size := Nat.le_refl _
  show zq_Go p e below s _ _ _ (s₁.setTop (mkF m 0 #[.val (.long x0), .second, .val (.long x1), .second, .val (.long x2), .second, .val (.long x3), .second, .val (.long x4), .second, .val (.long x5), .second, .unset, .unset, .unset, .unset, .unset, .unset, .unset, .unset, .unset, .unset, .unset, .unset, .unset, .unset, .unset, .unset, .unset, .unset, .unset, .unset, .unset, .unset] []))
  refine zq_go (fun _ k => XS.lloadN X0.here hx rfl (hb hby at_0) rfl k) ?_
  show zq_Go p e below s _ _ _ (s₁.setTop (mkF m 1 #[.val (.long x0), .second, .val (.long x1), .second, .val (.long x2), .second, .val (.long x3), .second, .val (.long x4), .second, .val (.long x5), .second, .unset, .unset, .unset, .unset, .unset, .unset, .unset, .unset, .unset, .unset, .unset, .unset, .unset, .unset, .unset, .unset, .unset, .unset, .unset, .unset, .unset, .unset] [(.long x0)]))
  refine zq_go (fun _ k => XS.bipush X0.here hx rfl (hb hby at_1) k) ?_
  show zq_Go p e below s _ _ _ (s₁.setTop (mkF m 3 #[.val (.long x0), .second, .val (.long x1), .second, .val (.long x2), .second, .val (.long x3), .second, .val (.long x4), .second, .val (.long x5), .second, .unset, .unset, .unset, .unset, .unset, .unset, .unset, .unset, .unset, .unset, .unset, .unset, .unset, .unset, .unset, .unset, .unset, .unset, .unset, .unset, .unset, .unset] [(.int (40 : Int32)), (.long x0)]))
  refine zq_go (fun _ k => XS.lushr X0.here hx rfl (hb hby at_3) rfl k) ?_
  show zq_Go p e below s _ _ _ (s₁.setTop (mkF m 4 #[.val (.long x0), .second, .val (.long x1), .second, .val (.long x2), .second, .val (.long x3), .second, .val (.long x4), .second, .val (.long x5), .second, .unset, .unset, .unset, .unset, .unset, .unset, .unset, .unset, .unset, .unset, .unset, .unset, .unset, .unset, .unset, .unset, .unset, .unset, .unset, .unset, .unset, .unset] [(.long ((x0.toUInt64 >>> ((40 : Int32) &&& 0x3f).toInt64.toUInt64).toInt64))]))
  refine zq_go (fun _ k => XS.lconst X0.here hx rfl (hb hby at_4) k) ?_
  show zq_Go p e below s _ _ _ (s₁.setTop (mkF m 5 #[.val (.long x0), .second, .val (.long x1), .second, .val (.long x2), .second, .val (.long x3), .second, .val (.long x4), .second, .val (.long x5), .second, .unset, .unset, .unset, .unset, .unset, .unset, .unset, .unset, .unset, .unset, .unset, .unset, .unset, .unset, .unset, .unset, .unset, .unset, .unset, .unset, .unset, .unset] [(.long (1 : Int64)), (.long ((x0.toUInt64 >>> ((40 : Int32) &&& 0x3f).toInt64.toUInt64).toInt64))]))
  refine zq_go (fun _ k => XS.land X0.here hx rfl (hb hby at_5) rfl k) ?_
  show zq_Go p e below s _ _ _ (s₁.setTop (mkF m 6 #[.val (.long x0), .second, .val (.long x1), .second, .val (.long x2), .second, .val (.long x3), .second, .val (.long x4), .second, .val (.long x5), .second, .unset, .unset, .unset, .unset, .unset, .unset, .unset, .unset, .unset, .unset, .unset, .unset, .unset, .unset, .unset, .unset, .unset, .unset, .unset, .unset, .unset, .unset] [(.long (((x0.toUInt64 >>> ((40 : Int32) &&& 0x3f).toInt64.toUInt64).toInt64) &&& (1 : Int64)))]))
  refine zq_go (fun _ k => XS.lconst X0.here hx rfl (hb hby at_6) k) ?_
  show zq_Go p e below s _ _ _ (s₁.setTop (mkF m 7 #[.val (.long x0), .second, .val (.long x1), .second, .val (.long x2), .second, .val (.long x3), .second, .val (.long x4), .second, .val (.long x5), .second, .unset, .unset, .unset, .unset, .unset, .unset, .unset, .unset, .unset, .unset, .unset, .unset, .unset, .unset, .unset, .unset, .unset, .unset, .unset, .unset, .unset, .unset] [(.long (0 : Int64)), (.long (((x0.toUInt64 >>> ((40 : Int32) &&& 0x3f).toInt64.toUInt64).toInt64) &&& (1 : Int64)))]))
  refine zq_go (fun _ k => XS.lcmp X0.here hx rfl (hb hby at_7) rfl k) ?_
  show zq_Go p e below s _ _ _ (s₁.setTop (mkF m 8 #[.val (.long x0), .second, .val (.long x1), .second, .val (.long x2), .second, .val (.long x3), .second, .val (.long x4), .second, .val (.long x5), .second, .unset, .unset, .unset, .unset, .unset, .unset, .unset, .unset, .unset, .unset, .unset, .unset, .unset, .unset, .unset, .unset, .unset, .unset, .unset, .unset, .unset, .unset] [(.int (lcmpW (((x0.toUInt64 >>> ((40 : Int32) &&& 0x3f).toInt64.toUInt64).toInt64) &&& (1 : Int64)) (0 : Int64)))]))
  obtain ⟨v8_0, hv8_0⟩ : ∃ z : Int32, z = (if (((x0.toUInt64 >>> ((40 : Int32) &&& 0x3f).toInt64.toUInt64).toInt64) &&& (1 : Int64)) = (0 : Int64) then (((x0 &&& (15 : Int64)) + (1 : Int64)).toInt32) else (((x0 &&& (1073741823 : Int64)) + (1 : Int64)).toInt32)) := ⟨_, rfl⟩
  have J8 : ∀ (T0_30j1 : State), Stand p l e room_1 s m #[(.long x0), (.long x1), (.long x2), (.long x3), (.long x4), (.long x5)] below meth c T0_30j1 [] 0 0 → T0_30j1.heap = h0 → zq_Go p e below s (zq_one h0.size) room_1.cells room_1.slots (T0_30j1.setTop (mkF m 30 #[.val (.long x0), .second, .val (.long x1), .second, .val (.long x2), .second, .val (.long x3), .second, .val (.long x4), .second, .val (.long x5), .second, .unset, .unset, .unset, .unset, .unset, .unset, .unset, .unset, .unset, .unset, .unset, .unset, .unset, .unset, .unset, .unset, .unset, .unset, .unset, .unset, .unset, .unset] [(.int v8_0)])) := by
    intro T0_30j1 X0_30j1 e0_30j1
    have hpb : zq_okp v8_0 := zq_piece hv8_0
    show zq_Go p e below s _ _ _ (T0_30j1.setTop (mkF m 30 #[.val (.long x0), .second, .val (.long x1), .second, .val (.long x2), .second, .val (.long x3), .second, .val (.long x4), .second, .val (.long x5), .second, .unset, .unset, .unset, .unset, .unset, .unset, .unset, .unset, .unset, .unset, .unset, .unset, .unset, .unset, .unset, .unset, .unset, .unset, .unset, .unset, .unset, .unset] [(.int v8_0)]))
    refine zq_go (fun _ k => XS.istore X0_30j1.here hx rfl (hb hby at_30) rfl (l' := #[.val (.long x0), .second, .val (.long x1), .second, .val (.long x2), .second, .val (.long x3), .second, .val (.long x4), .second, .val (.long x5), .second, .val (.int v8_0), .unset, .unset, .unset, .unset, .unset, .unset, .unset, .unset, .unset, .unset, .unset, .unset, .unset, .unset, .unset, .unset, .unset, .unset, .unset, .unset, .unset]) rfl k) ?_
    show zq_Go p e below s _ _ _ (T0_30j1.setTop (mkF m 32 #[.val (.long x0), .second, .val (.long x1), .second, .val (.long x2), .second, .val (.long x3), .second, .val (.long x4), .second, .val (.long x5), .second, .val (.int v8_0), .unset, .unset, .unset, .unset, .unset, .unset, .unset, .unset, .unset, .unset, .unset, .unset, .unset, .unset, .unset, .unset, .unset, .unset, .unset, .unset, .unset] []))
    refine zq_go (X0_30j1.ldc2Long hx hown (mvT hZ (hw _ (List.mem_of_getElem? (i := 1) rfl))) (g := (mkF m 32 #[.val (.long x0), .second, .val (.long x1), .second, .val (.long x2), .second, .val (.long x3), .second, .val (.long x4), .second, .val (.long x5), .second, .val (.int v8_0), .unset, .unset, .unset, .unset, .unset, .unset, .unset, .unset, .unset, .unset, .unset, .unset, .unset, .unset, .unset, .unset, .unset, .unset, .unset, .unset, .unset] [])) rfl (hb hby at_32)) ?_
    show zq_Go p e below s _ _ _ (T0_30j1.setTop (mkF m 35 #[.val (.long x0), .second, .val (.long x1), .second, .val (.long x2), .second, .val (.long x3), .second, .val (.long x4), .second, .val (.long x5), .second, .val (.int v8_0), .unset, .unset, .unset, .unset, .unset, .unset, .unset, .unset, .unset, .unset, .unset, .unset, .unset, .unset, .unset, .unset, .unset, .unset, .unset, .unset, .unset] [(.long (4611686018427387903 : Int64))]))
    refine zq_go (fun _ k => XS.lstore X0_30j1.here hx rfl (hb hby at_35) rfl (l' := #[.val (.long x0), .second, .val (.long x1), .second, .val (.long x2), .second, .val (.long x3), .second, .val (.long x4), .second, .val (.long x5), .second, .val (.int v8_0), .val (.long (4611686018427387903 : Int64)), .second, .unset, .unset, .unset, .unset, .unset, .unset, .unset, .unset, .unset, .unset, .unset, .unset, .unset, .unset, .unset, .unset, .unset, .unset, .unset]) rfl k) ?_
    show zq_Go p e below s _ _ _ (T0_30j1.setTop (mkF m 37 #[.val (.long x0), .second, .val (.long x1), .second, .val (.long x2), .second, .val (.long x3), .second, .val (.long x4), .second, .val (.long x5), .second, .val (.int v8_0), .val (.long (4611686018427387903 : Int64)), .second, .unset, .unset, .unset, .unset, .unset, .unset, .unset, .unset, .unset, .unset, .unset, .unset, .unset, .unset, .unset, .unset, .unset, .unset, .unset] []))
    refine zq_go (fun _ k => XS.lload X0_30j1.here hx rfl (hb hby at_37) rfl k) ?_
    show zq_Go p e below s _ _ _ (T0_30j1.setTop (mkF m 39 #[.val (.long x0), .second, .val (.long x1), .second, .val (.long x2), .second, .val (.long x3), .second, .val (.long x4), .second, .val (.long x5), .second, .val (.int v8_0), .val (.long (4611686018427387903 : Int64)), .second, .unset, .unset, .unset, .unset, .unset, .unset, .unset, .unset, .unset, .unset, .unset, .unset, .unset, .unset, .unset, .unset, .unset, .unset, .unset] [(.long x3)]))
    refine zq_go (fun _ k => XS.lload X0_30j1.here hx rfl (hb hby at_39) rfl k) ?_
    show zq_Go p e below s _ _ _ (T0_30j1.setTop (mkF m 41 #[.val (.long x0), .second, .val (.long x1), .second, .val (.long x2), .second, .val (.long x3), .second, .val (.long x4), .second, .val (.long x5), .second, .val (.int v8_0), .val (.long (4611686018427387903 : Int64)), .second, .unset, .unset, .unset, .unset, .unset, .unset, .unset, .unset, .unset, .unset, .unset, .unset, .unset, .unset, .unset, .unset, .unset, .unset, .unset] [(.long (4611686018427387903 : Int64)), (.long x3)]))
    refine zq_go (fun _ k => XS.land X0_30j1.here hx rfl (hb hby at_41) rfl k) ?_
    show zq_Go p e below s _ _ _ (T0_30j1.setTop (mkF m 42 #[.val (.long x0), .second, .val (.long x1), .second, .val (.long x2), .second, .val (.long x3), .second, .val (.long x4), .second, .val (.long x5), .second, .val (.int v8_0), .val (.long (4611686018427387903 : Int64)), .second, .unset, .unset, .unset, .unset, .unset, .unset, .unset, .unset, .unset, .unset, .unset, .unset, .unset, .unset, .unset, .unset, .unset, .unset, .unset] [(.long (x3 &&& (4611686018427387903 : Int64)))]))
    refine zq_go (fun _ k => XS.lstore X0_30j1.here hx rfl (hb hby at_42) rfl (l' := #[.val (.long x0), .second, .val (.long x1), .second, .val (.long x2), .second, .val (.long x3), .second, .val (.long x4), .second, .val (.long x5), .second, .val (.int v8_0), .val (.long (4611686018427387903 : Int64)), .second, .val (.long (x3 &&& (4611686018427387903 : Int64))), .second, .unset, .unset, .unset, .unset, .unset, .unset, .unset, .unset, .unset, .unset, .unset, .unset, .unset, .unset, .unset, .unset, .unset]) rfl k) ?_
    show zq_Go p e below s _ _ _ (T0_30j1.setTop (mkF m 44 #[.val (.long x0), .second, .val (.long x1), .second, .val (.long x2), .second, .val (.long x3), .second, .val (.long x4), .second, .val (.long x5), .second, .val (.int v8_0), .val (.long (4611686018427387903 : Int64)), .second, .val (.long (x3 &&& (4611686018427387903 : Int64))), .second, .unset, .unset, .unset, .unset, .unset, .unset, .unset, .unset, .unset, .unset, .unset, .unset, .unset, .unset, .unset, .unset, .unset] []))
    refine zq_go (fun _ k => XS.lload X0_30j1.here hx rfl (hb hby at_44) rfl k) ?_
    show zq_Go p e below s _ _ _ (T0_30j1.setTop (mkF m 46 #[.val (.long x0), .second, .val (.long x1), .second, .val (.long x2), .second, .val (.long x3), .second, .val (.long x4), .second, .val (.long x5), .second, .val (.int v8_0), .val (.long (4611686018427387903 : Int64)), .second, .val (.long (x3 &&& (4611686018427387903 : Int64))), .second, .unset, .unset, .unset, .unset, .unset, .unset, .unset, .unset, .unset, .unset, .unset, .unset, .unset, .unset, .unset, .unset, .unset] [(.long x4)]))
    refine zq_go (fun _ k => XS.lload X0_30j1.here hx rfl (hb hby at_46) rfl k) ?_
    show zq_Go p e below s _ _ _ (T0_30j1.setTop (mkF m 48 #[.val (.long x0), .second, .val (.long x1), .second, .val (.long x2), .second, .val (.long x3), .second, .val (.long x4), .second, .val (.long x5), .second, .val (.int v8_0), .val (.long (4611686018427387903 : Int64)), .second, .val (.long (x3 &&& (4611686018427387903 : Int64))), .second, .unset, .unset, .unset, .unset, .unset, .unset, .unset, .unset, .unset, .unset, .unset, .unset, .unset, .unset, .unset, .unset, .unset] [(.long (4611686018427387903 : Int64)), (.long x4)]))
    refine zq_go (fun _ k => XS.land X0_30j1.here hx rfl (hb hby at_48) rfl k) ?_
    show zq_Go p e below s _ _ _ (T0_30j1.setTop (mkF m 49 #[.val (.long x0), .second, .val (.long x1), .second, .val (.long x2), .second, .val (.long x3), .second, .val (.long x4), .second, .val (.long x5), .second, .val (.int v8_0), .val (.long (4611686018427387903 : Int64)), .second, .val (.long (x3 &&& (4611686018427387903 : Int64))), .second, .unset, .unset, .unset, .unset, .unset, .unset, .unset, .unset, .unset, .unset, .unset, .unset, .unset, .unset, .unset, .unset, .unset] [(.long (x4 &&& (4611686018427387903 : Int64)))]))
    refine zq_go (fun _ k => XS.lstore X0_30j1.here hx rfl (hb hby at_49) rfl (l' := #[.val (.long x0), .second, .val (.long x1), .second, .val (.long x2), .second, .val (.long x3), .second, .val (.long x4), .second, .val (.long x5), .second, .val (.int v8_0), .val (.long (4611686018427387903 : Int64)), .second, .val (.long (x3 &&& (4611686018427387903 : Int64))), .second, .val (.long (x4 &&& (4611686018427387903 : Int64))), .second, .unset, .unset, .unset, .unset, .unset, .unset, .unset, .unset, .unset, .unset, .unset, .unset, .unset, .unset, .unset]) rfl k) ?_
    show zq_Go p e below s _ _ _ (T0_30j1.setTop (mkF m 51 #[.val (.long x0), .second, .val (.long x1), .second, .val (.long x2), .second, .val (.long x3), .second, .val (.long x4), .second, .val (.long x5), .second, .val (.int v8_0), .val (.long (4611686018427387903 : Int64)), .second, .val (.long (x3 &&& (4611686018427387903 : Int64))), .second, .val (.long (x4 &&& (4611686018427387903 : Int64))), .second, .unset, .unset, .unset, .unset, .unset, .unset, .unset, .unset, .unset, .unset, .unset, .unset, .unset, .unset, .unset] []))
    refine zq_go (fun _ k => XS.lloadN X0_30j1.here hx rfl (hb hby at_51) rfl k) ?_
    show zq_Go p e below s _ _ _ (T0_30j1.setTop (mkF m 52 #[.val (.long x0), .second, .val (.long x1), .second, .val (.long x2), .second, .val (.long x3), .second, .val (.long x4), .second, .val (.long x5), .second, .val (.int v8_0), .val (.long (4611686018427387903 : Int64)), .second, .val (.long (x3 &&& (4611686018427387903 : Int64))), .second, .val (.long (x4 &&& (4611686018427387903 : Int64))), .second, .unset, .unset, .unset, .unset, .unset, .unset, .unset, .unset, .unset, .unset, .unset, .unset, .unset, .unset, .unset] [(.long x0)]))
    refine zq_go (fun _ k => XS.bipush X0_30j1.here hx rfl (hb hby at_52) k) ?_
    show zq_Go p e below s _ _ _ (T0_30j1.setTop (mkF m 54 #[.val (.long x0), .second, .val (.long x1), .second, .val (.long x2), .second, .val (.long x3), .second, .val (.long x4), .second, .val (.long x5), .second, .val (.int v8_0), .val (.long (4611686018427387903 : Int64)), .second, .val (.long (x3 &&& (4611686018427387903 : Int64))), .second, .val (.long (x4 &&& (4611686018427387903 : Int64))), .second, .unset, .unset, .unset, .unset, .unset, .unset, .unset, .unset, .unset, .unset, .unset, .unset, .unset, .unset, .unset] [(.int (41 : Int32)), (.long x0)]))
    refine zq_go (fun _ k => XS.lushr X0_30j1.here hx rfl (hb hby at_54) rfl k) ?_
    show zq_Go p e below s _ _ _ (T0_30j1.setTop (mkF m 55 #[.val (.long x0), .second, .val (.long x1), .second, .val (.long x2), .second, .val (.long x3), .second, .val (.long x4), .second, .val (.long x5), .second, .val (.int v8_0), .val (.long (4611686018427387903 : Int64)), .second, .val (.long (x3 &&& (4611686018427387903 : Int64))), .second, .val (.long (x4 &&& (4611686018427387903 : Int64))), .second, .unset, .unset, .unset, .unset, .unset, .unset, .unset, .unset, .unset, .unset, .unset, .unset, .unset, .unset, .unset] [(.long ((x0.toUInt64 >>> ((41 : Int32) &&& 0x3f).toInt64.toUInt64).toInt64))]))
    refine zq_go (fun _ k => XS.lconst X0_30j1.here hx rfl (hb hby at_55) k) ?_
    show zq_Go p e below s _ _ _ (T0_30j1.setTop (mkF m 56 #[.val (.long x0), .second, .val (.long x1), .second, .val (.long x2), .second, .val (.long x3), .second, .val (.long x4), .second, .val (.long x5), .second, .val (.int v8_0), .val (.long (4611686018427387903 : Int64)), .second, .val (.long (x3 &&& (4611686018427387903 : Int64))), .second, .val (.long (x4 &&& (4611686018427387903 : Int64))), .second, .unset, .unset, .unset, .unset, .unset, .unset, .unset, .unset, .unset, .unset, .unset, .unset, .unset, .unset, .unset] [(.long (1 : Int64)), (.long ((x0.toUInt64 >>> ((41 : Int32) &&& 0x3f).toInt64.toUInt64).toInt64))]))
    refine zq_go (fun _ k => XS.land X0_30j1.here hx rfl (hb hby at_56) rfl k) ?_
    show zq_Go p e below s _ _ _ (T0_30j1.setTop (mkF m 57 #[.val (.long x0), .second, .val (.long x1), .second, .val (.long x2), .second, .val (.long x3), .second, .val (.long x4), .second, .val (.long x5), .second, .val (.int v8_0), .val (.long (4611686018427387903 : Int64)), .second, .val (.long (x3 &&& (4611686018427387903 : Int64))), .second, .val (.long (x4 &&& (4611686018427387903 : Int64))), .second, .unset, .unset, .unset, .unset, .unset, .unset, .unset, .unset, .unset, .unset, .unset, .unset, .unset, .unset, .unset] [(.long (((x0.toUInt64 >>> ((41 : Int32) &&& 0x3f).toInt64.toUInt64).toInt64) &&& (1 : Int64)))]))
    refine zq_go (fun _ k => XS.lconst X0_30j1.here hx rfl (hb hby at_57) k) ?_
    show zq_Go p e below s _ _ _ (T0_30j1.setTop (mkF m 58 #[.val (.long x0), .second, .val (.long x1), .second, .val (.long x2), .second, .val (.long x3), .second, .val (.long x4), .second, .val (.long x5), .second, .val (.int v8_0), .val (.long (4611686018427387903 : Int64)), .second, .val (.long (x3 &&& (4611686018427387903 : Int64))), .second, .val (.long (x4 &&& (4611686018427387903 : Int64))), .second, .unset, .unset, .unset, .unset, .unset, .unset, .unset, .unset, .unset, .unset, .unset, .unset, .unset, .unset, .unset] [(.long (0 : Int64)), (.long (((x0.toUInt64 >>> ((41 : Int32) &&& 0x3f).toInt64.toUInt64).toInt64) &&& (1 : Int64)))]))
    refine zq_go (fun _ k => XS.lcmp X0_30j1.here hx rfl (hb hby at_58) rfl k) ?_
    show zq_Go p e below s _ _ _ (T0_30j1.setTop (mkF m 59 #[.val (.long x0), .second, .val (.long x1), .second, .val (.long x2), .second, .val (.long x3), .second, .val (.long x4), .second, .val (.long x5), .second, .val (.int v8_0), .val (.long (4611686018427387903 : Int64)), .second, .val (.long (x3 &&& (4611686018427387903 : Int64))), .second, .val (.long (x4 &&& (4611686018427387903 : Int64))), .second, .unset, .unset, .unset, .unset, .unset, .unset, .unset, .unset, .unset, .unset, .unset, .unset, .unset, .unset, .unset] [(.int (lcmpW (((x0.toUInt64 >>> ((41 : Int32) &&& 0x3f).toInt64.toUInt64).toInt64) &&& (1 : Int64)) (0 : Int64)))]))
    obtain ⟨v59_0, hv59_0⟩ : ∃ z : Int64, z = (if (((x0.toUInt64 >>> ((41 : Int32) &&& 0x3f).toInt64.toUInt64).toInt64) &&& (1 : Int64)) = (0 : Int64) then ((x3 &&& (4611686018427387903 : Int64)) - ((x3 &&& (4611686018427387903 : Int64)) / ((3 : Int64) * (v8_0.toInt64))) * ((3 : Int64) * (v8_0.toInt64))) else (x3 &&& (4611686018427387903 : Int64))) := ⟨_, rfl⟩
    have J59 : ∀ (T0_74j2 : State), Stand p l e room_1 s m #[(.long x0), (.long x1), (.long x2), (.long x3), (.long x4), (.long x5)] below meth c T0_74j2 [] 0 0 → T0_74j2.heap = h0 → zq_Go p e below s (zq_one h0.size) room_1.cells room_1.slots (T0_74j2.setTop (mkF m 74 #[.val (.long x0), .second, .val (.long x1), .second, .val (.long x2), .second, .val (.long x3), .second, .val (.long x4), .second, .val (.long x5), .second, .val (.int v8_0), .val (.long (4611686018427387903 : Int64)), .second, .val (.long v59_0), .second, .val (.long (x4 &&& (4611686018427387903 : Int64))), .second, .unset, .unset, .unset, .unset, .unset, .unset, .unset, .unset, .unset, .unset, .unset, .unset, .unset, .unset, .unset] [])) := by
      intro T0_74j2 X0_74j2 e0_74j2
      have hx1 : zq_okx v59_0 := zq_x hpb hv59_0
      show zq_Go p e below s _ _ _ (T0_74j2.setTop (mkF m 74 #[.val (.long x0), .second, .val (.long x1), .second, .val (.long x2), .second, .val (.long x3), .second, .val (.long x4), .second, .val (.long x5), .second, .val (.int v8_0), .val (.long (4611686018427387903 : Int64)), .second, .val (.long v59_0), .second, .val (.long (x4 &&& (4611686018427387903 : Int64))), .second, .unset, .unset, .unset, .unset, .unset, .unset, .unset, .unset, .unset, .unset, .unset, .unset, .unset, .unset, .unset] []))
      refine zq_go (fun _ k => XS.lloadN X0_74j2.here hx rfl (hb hby at_74) rfl k) ?_
      show zq_Go p e below s _ _ _ (T0_74j2.setTop (mkF m 75 #[.val (.long x0), .second, .val (.long x1), .second, .val (.long x2), .second, .val (.long x3), .second, .val (.long x4), .second, .val (.long x5), .second, .val (.int v8_0), .val (.long (4611686018427387903 : Int64)), .second, .val (.long v59_0), .second, .val (.long (x4 &&& (4611686018427387903 : Int64))), .second, .unset, .unset, .unset, .unset, .unset, .unset, .unset, .unset, .unset, .unset, .unset, .unset, .unset, .unset, .unset] [(.long x0)]))
      refine zq_go (fun _ k => XS.bipush X0_74j2.here hx rfl (hb hby at_75) k) ?_
      show zq_Go p e below s _ _ _ (T0_74j2.setTop (mkF m 77 #[.val (.long x0), .second, .val (.long x1), .second, .val (.long x2), .second, .val (.long x3), .second, .val (.long x4), .second, .val (.long x5), .second, .val (.int v8_0), .val (.long (4611686018427387903 : Int64)), .second, .val (.long v59_0), .second, .val (.long (x4 &&& (4611686018427387903 : Int64))), .second, .unset, .unset, .unset, .unset, .unset, .unset, .unset, .unset, .unset, .unset, .unset, .unset, .unset, .unset, .unset] [(.int (42 : Int32)), (.long x0)]))
      refine zq_go (fun _ k => XS.lushr X0_74j2.here hx rfl (hb hby at_77) rfl k) ?_
      show zq_Go p e below s _ _ _ (T0_74j2.setTop (mkF m 78 #[.val (.long x0), .second, .val (.long x1), .second, .val (.long x2), .second, .val (.long x3), .second, .val (.long x4), .second, .val (.long x5), .second, .val (.int v8_0), .val (.long (4611686018427387903 : Int64)), .second, .val (.long v59_0), .second, .val (.long (x4 &&& (4611686018427387903 : Int64))), .second, .unset, .unset, .unset, .unset, .unset, .unset, .unset, .unset, .unset, .unset, .unset, .unset, .unset, .unset, .unset] [(.long ((x0.toUInt64 >>> ((42 : Int32) &&& 0x3f).toInt64.toUInt64).toInt64))]))
      refine zq_go (fun _ k => XS.lconst X0_74j2.here hx rfl (hb hby at_78) k) ?_
      show zq_Go p e below s _ _ _ (T0_74j2.setTop (mkF m 79 #[.val (.long x0), .second, .val (.long x1), .second, .val (.long x2), .second, .val (.long x3), .second, .val (.long x4), .second, .val (.long x5), .second, .val (.int v8_0), .val (.long (4611686018427387903 : Int64)), .second, .val (.long v59_0), .second, .val (.long (x4 &&& (4611686018427387903 : Int64))), .second, .unset, .unset, .unset, .unset, .unset, .unset, .unset, .unset, .unset, .unset, .unset, .unset, .unset, .unset, .unset] [(.long (1 : Int64)), (.long ((x0.toUInt64 >>> ((42 : Int32) &&& 0x3f).toInt64.toUInt64).toInt64))]))
      refine zq_go (fun _ k => XS.land X0_74j2.here hx rfl (hb hby at_79) rfl k) ?_
      show zq_Go p e below s _ _ _ (T0_74j2.setTop (mkF m 80 #[.val (.long x0), .second, .val (.long x1), .second, .val (.long x2), .second, .val (.long x3), .second, .val (.long x4), .second, .val (.long x5), .second, .val (.int v8_0), .val (.long (4611686018427387903 : Int64)), .second, .val (.long v59_0), .second, .val (.long (x4 &&& (4611686018427387903 : Int64))), .second, .unset, .unset, .unset, .unset, .unset, .unset, .unset, .unset, .unset, .unset, .unset, .unset, .unset, .unset, .unset] [(.long (((x0.toUInt64 >>> ((42 : Int32) &&& 0x3f).toInt64.toUInt64).toInt64) &&& (1 : Int64)))]))
      refine zq_go (fun _ k => XS.lconst X0_74j2.here hx rfl (hb hby at_80) k) ?_
      show zq_Go p e below s _ _ _ (T0_74j2.setTop (mkF m 81 #[.val (.long x0), .second, .val (.long x1), .second, .val (.long x2), .second, .val (.long x3), .second, .val (.long x4), .second, .val (.long x5), .second, .val (.int v8_0), .val (.long (4611686018427387903 : Int64)), .second, .val (.long v59_0), .second, .val (.long (x4 &&& (4611686018427387903 : Int64))), .second, .unset, .unset, .unset, .unset, .unset, .unset, .unset, .unset, .unset, .unset, .unset, .unset, .unset, .unset, .unset] [(.long (0 : Int64)), (.long (((x0.toUInt64 >>> ((42 : Int32) &&& 0x3f).toInt64.toUInt64).toInt64) &&& (1 : Int64)))]))
      refine zq_go (fun _ k => XS.lcmp X0_74j2.here hx rfl (hb hby at_81) rfl k) ?_
      show zq_Go p e below s _ _ _ (T0_74j2.setTop (mkF m 82 #[.val (.long x0), .second, .val (.long x1), .second, .val (.long x2), .second, .val (.long x3), .second, .val (.long x4), .second, .val (.long x5), .second, .val (.int v8_0), .val (.long (4611686018427387903 : Int64)), .second, .val (.long v59_0), .second, .val (.long (x4 &&& (4611686018427387903 : Int64))), .second, .unset, .unset, .unset, .unset, .unset, .unset, .unset, .unset, .unset, .unset, .unset, .unset, .unset, .unset, .unset] [(.int (lcmpW (((x0.toUInt64 >>> ((42 : Int32) &&& 0x3f).toInt64.toUInt64).toInt64) &&& (1 : Int64)) (0 : Int64)))]))
      obtain ⟨v82_0, hv82_0⟩ : ∃ z : Int64, z = (if (((x0.toUInt64 >>> ((42 : Int32) &&& 0x3f).toInt64.toUInt64).toInt64) &&& (1 : Int64)) = (0 : Int64) then ((x4 &&& (4611686018427387903 : Int64)) - ((x4 &&& (4611686018427387903 : Int64)) / ((3 : Int64) * (v8_0.toInt64))) * ((3 : Int64) * (v8_0.toInt64))) else (x4 &&& (4611686018427387903 : Int64))) := ⟨_, rfl⟩
      have J82 : ∀ (T0_97j3 : State), Stand p l e room_1 s m #[(.long x0), (.long x1), (.long x2), (.long x3), (.long x4), (.long x5)] below meth c T0_97j3 [] 0 0 → T0_97j3.heap = h0 → zq_Go p e below s (zq_one h0.size) room_1.cells room_1.slots (T0_97j3.setTop (mkF m 97 #[.val (.long x0), .second, .val (.long x1), .second, .val (.long x2), .second, .val (.long x3), .second, .val (.long x4), .second, .val (.long x5), .second, .val (.int v8_0), .val (.long (4611686018427387903 : Int64)), .second, .val (.long v59_0), .second, .val (.long v82_0), .second, .unset, .unset, .unset, .unset, .unset, .unset, .unset, .unset, .unset, .unset, .unset, .unset, .unset, .unset, .unset] [])) := by
        intro T0_97j3 X0_97j3 e0_97j3
        have hx2 : zq_okx v82_0 := zq_x hpb hv82_0
        show zq_Go p e below s _ _ _ (T0_97j3.setTop (mkF m 97 #[.val (.long x0), .second, .val (.long x1), .second, .val (.long x2), .second, .val (.long x3), .second, .val (.long x4), .second, .val (.long x5), .second, .val (.int v8_0), .val (.long (4611686018427387903 : Int64)), .second, .val (.long v59_0), .second, .val (.long v82_0), .second, .unset, .unset, .unset, .unset, .unset, .unset, .unset, .unset, .unset, .unset, .unset, .unset, .unset, .unset, .unset] []))
        refine zq_go (fun _ k => XS.lload X0_97j3.here hx rfl (hb hby at_97) rfl k) ?_
        show zq_Go p e below s _ _ _ (T0_97j3.setTop (mkF m 99 #[.val (.long x0), .second, .val (.long x1), .second, .val (.long x2), .second, .val (.long x3), .second, .val (.long x4), .second, .val (.long x5), .second, .val (.int v8_0), .val (.long (4611686018427387903 : Int64)), .second, .val (.long v59_0), .second, .val (.long v82_0), .second, .unset, .unset, .unset, .unset, .unset, .unset, .unset, .unset, .unset, .unset, .unset, .unset, .unset, .unset, .unset] [(.long x5)]))
        refine zq_go (fun _ k => XS.lstore X0_97j3.here hx rfl (hb hby at_99) rfl (l' := #[.val (.long x0), .second, .val (.long x1), .second, .val (.long x2), .second, .val (.long x3), .second, .val (.long x4), .second, .val (.long x5), .second, .val (.int v8_0), .val (.long (4611686018427387903 : Int64)), .second, .val (.long v59_0), .second, .val (.long v82_0), .second, .val (.long x5), .second, .unset, .unset, .unset, .unset, .unset, .unset, .unset, .unset, .unset, .unset, .unset, .unset, .unset]) rfl k) ?_
        show zq_Go p e below s _ _ _ (T0_97j3.setTop (mkF m 101 #[.val (.long x0), .second, .val (.long x1), .second, .val (.long x2), .second, .val (.long x3), .second, .val (.long x4), .second, .val (.long x5), .second, .val (.int v8_0), .val (.long (4611686018427387903 : Int64)), .second, .val (.long v59_0), .second, .val (.long v82_0), .second, .val (.long x5), .second, .unset, .unset, .unset, .unset, .unset, .unset, .unset, .unset, .unset, .unset, .unset, .unset, .unset] []))
        refine zq_go (fun _ k => XS.lload X0_97j3.here hx rfl (hb hby at_101) rfl k) ?_
        show zq_Go p e below s _ _ _ (T0_97j3.setTop (mkF m 103 #[.val (.long x0), .second, .val (.long x1), .second, .val (.long x2), .second, .val (.long x3), .second, .val (.long x4), .second, .val (.long x5), .second, .val (.int v8_0), .val (.long (4611686018427387903 : Int64)), .second, .val (.long v59_0), .second, .val (.long v82_0), .second, .val (.long x5), .second, .unset, .unset, .unset, .unset, .unset, .unset, .unset, .unset, .unset, .unset, .unset, .unset, .unset] [(.long x5)]))
        refine zq_go (X0_97j3.ldc2Long hx hown (mvT hZ (hw _ (List.mem_of_getElem? (i := 3) rfl))) (g := (mkF m 103 #[.val (.long x0), .second, .val (.long x1), .second, .val (.long x2), .second, .val (.long x3), .second, .val (.long x4), .second, .val (.long x5), .second, .val (.int v8_0), .val (.long (4611686018427387903 : Int64)), .second, .val (.long v59_0), .second, .val (.long v82_0), .second, .val (.long x5), .second, .unset, .unset, .unset, .unset, .unset, .unset, .unset, .unset, .unset, .unset, .unset, .unset, .unset] [(.long x5)])) rfl (hb hby at_103)) ?_
        show zq_Go p e below s _ _ _ (T0_97j3.setTop (mkF m 106 #[.val (.long x0), .second, .val (.long x1), .second, .val (.long x2), .second, .val (.long x3), .second, .val (.long x4), .second, .val (.long x5), .second, .val (.int v8_0), .val (.long (4611686018427387903 : Int64)), .second, .val (.long v59_0), .second, .val (.long v82_0), .second, .val (.long x5), .second, .unset, .unset, .unset, .unset, .unset, .unset, .unset, .unset, .unset, .unset, .unset, .unset, .unset] [(.long (6148914691236517205 : Int64)), (.long x5)]))
        refine zq_go (fun _ k => XS.lxor X0_97j3.here hx rfl (hb hby at_106) rfl k) ?_
        show zq_Go p e below s _ _ _ (T0_97j3.setTop (mkF m 107 #[.val (.long x0), .second, .val (.long x1), .second, .val (.long x2), .second, .val (.long x3), .second, .val (.long x4), .second, .val (.long x5), .second, .val (.int v8_0), .val (.long (4611686018427387903 : Int64)), .second, .val (.long v59_0), .second, .val (.long v82_0), .second, .val (.long x5), .second, .unset, .unset, .unset, .unset, .unset, .unset, .unset, .unset, .unset, .unset, .unset, .unset, .unset] [(.long (x5 ^^^ (6148914691236517205 : Int64)))]))
        refine zq_go (fun _ k => XS.lstore X0_97j3.here hx rfl (hb hby at_107) rfl (l' := #[.val (.long x0), .second, .val (.long x1), .second, .val (.long x2), .second, .val (.long x3), .second, .val (.long x4), .second, .val (.long x5), .second, .val (.int v8_0), .val (.long (4611686018427387903 : Int64)), .second, .val (.long v59_0), .second, .val (.long v82_0), .second, .val (.long x5), .second, .val (.long (x5 ^^^ (6148914691236517205 : Int64))), .second, .unset, .unset, .unset, .unset, .unset, .unset, .unset, .unset, .unset, .unset, .unset]) rfl k) ?_
        show zq_Go p e below s _ _ _ (T0_97j3.setTop (mkF m 109 #[.val (.long x0), .second, .val (.long x1), .second, .val (.long x2), .second, .val (.long x3), .second, .val (.long x4), .second, .val (.long x5), .second, .val (.int v8_0), .val (.long (4611686018427387903 : Int64)), .second, .val (.long v59_0), .second, .val (.long v82_0), .second, .val (.long x5), .second, .val (.long (x5 ^^^ (6148914691236517205 : Int64))), .second, .unset, .unset, .unset, .unset, .unset, .unset, .unset, .unset, .unset, .unset, .unset] []))
        obtain ⟨T4, h4, b4, gb4, X4, e4, E4, E_b4, D4, st4⟩ := zq_newO X0_97j3 hx hZ hown (hw _ (List.mem_of_getElem? (i := 4) rfl)) (hw _ (List.mem_of_getElem? (i := 5) rfl)) (hw _ (List.mem_of_getElem? (i := 6) rfl)) e0_97j3 (g := (mkF m 109 #[.val (.long x0), .second, .val (.long x1), .second, .val (.long x2), .second, .val (.long x3), .second, .val (.long x4), .second, .val (.long x5), .second, .val (.int v8_0), .val (.long (4611686018427387903 : Int64)), .second, .val (.long v59_0), .second, .val (.long v82_0), .second, .val (.long x5), .second, .val (.long (x5 ^^^ (6148914691236517205 : Int64))), .second, .unset, .unset, .unset, .unset, .unset, .unset, .unset, .unset, .unset, .unset, .unset] [])) rfl (hb hby at_109) (by decide) (by decide)
        have g_b4 : h0.size ≤ b4 := by rw [gb4]; exact ZS
        have ZS := Nat.le_trans ZS E4.1
        have X4 : Stand p l e room_1 s m #[(.long x0), (.long x1), (.long x2), (.long x3), (.long x4), (.long x5)] below meth c T4 [] 1 4 := X4
        have F_pieceBytes_b4 : Fld Z h4 b4 "com/example/epochlog/epochlog/http/ProgressDeadline" "pieceBytes" "I" (.int (0 : Int32)) := D4 (Or.inr (hw _ (List.mem_of_getElem? (i := 14) rfl))) (ty := .int) (by decide)
        have F_limitNanos_b4 : Fld Z h4 b4 "com/example/epochlog/epochlog/http/ProgressDeadline" "limitNanos" "J" (.long (0 : Int64)) := D4 (Or.inr (hw _ (List.mem_of_getElem? (i := 16) rfl))) (ty := .long) (by decide)
        have F_deadline_b4 : Fld Z h4 b4 "com/example/epochlog/epochlog/http/ProgressDeadline" "deadline" "J" (.long (0 : Int64)) := D4 (Or.inl (hw _ (List.mem_of_getElem? (i := 23) rfl))) (ty := .long) (by decide)
        have F_pieceDone_b4 : Fld Z h4 b4 "com/example/epochlog/epochlog/http/ProgressDeadline" "pieceDone" "J" (.long (0 : Int64)) := D4 (Or.inl (hw _ (List.mem_of_getElem? (i := 25) rfl))) (ty := .long) (by decide)
        refine zq_go st4 ?_
        show zq_Go p e below s _ _ _ (T4.setTop (mkF m 112 #[.val (.long x0), .second, .val (.long x1), .second, .val (.long x2), .second, .val (.long x3), .second, .val (.long x4), .second, .val (.long x5), .second, .val (.int v8_0), .val (.long (4611686018427387903 : Int64)), .second, .val (.long v59_0), .second, .val (.long v82_0), .second, .val (.long x5), .second, .val (.long (x5 ^^^ (6148914691236517205 : Int64))), .second, .unset, .unset, .unset, .unset, .unset, .unset, .unset, .unset, .unset, .unset, .unset] [(.ref b4)]))
        refine zq_go (fun _ k => XS.dup X4.here hx rfl (hb hby at_112) rfl rfl k) ?_
        show zq_Go p e below s _ _ _ (T4.setTop (mkF m 113 #[.val (.long x0), .second, .val (.long x1), .second, .val (.long x2), .second, .val (.long x3), .second, .val (.long x4), .second, .val (.long x5), .second, .val (.int v8_0), .val (.long (4611686018427387903 : Int64)), .second, .val (.long v59_0), .second, .val (.long v82_0), .second, .val (.long x5), .second, .val (.long (x5 ^^^ (6148914691236517205 : Int64))), .second, .unset, .unset, .unset, .unset, .unset, .unset, .unset, .unset, .unset, .unset, .unset] [(.ref b4), (.ref b4)]))
        refine zq_go (fun _ k => XS.iload X4.here hx rfl (hb hby at_113) rfl k) ?_
        show zq_Go p e below s _ _ _ (T4.setTop (mkF m 115 #[.val (.long x0), .second, .val (.long x1), .second, .val (.long x2), .second, .val (.long x3), .second, .val (.long x4), .second, .val (.long x5), .second, .val (.int v8_0), .val (.long (4611686018427387903 : Int64)), .second, .val (.long v59_0), .second, .val (.long v82_0), .second, .val (.long x5), .second, .val (.long (x5 ^^^ (6148914691236517205 : Int64))), .second, .unset, .unset, .unset, .unset, .unset, .unset, .unset, .unset, .unset, .unset, .unset] [(.int v8_0), (.ref b4), (.ref b4)]))
        refine zq_go (fun _ k => XS.lloadN X4.here hx rfl (hb hby at_115) rfl k) ?_
        show zq_Go p e below s _ _ _ (T4.setTop (mkF m 116 #[.val (.long x0), .second, .val (.long x1), .second, .val (.long x2), .second, .val (.long x3), .second, .val (.long x4), .second, .val (.long x5), .second, .val (.int v8_0), .val (.long (4611686018427387903 : Int64)), .second, .val (.long v59_0), .second, .val (.long v82_0), .second, .val (.long x5), .second, .val (.long (x5 ^^^ (6148914691236517205 : Int64))), .second, .unset, .unset, .unset, .unset, .unset, .unset, .unset, .unset, .unset, .unset, .unset] [(.long x1), (.int v8_0), (.ref b4), (.ref b4)]))
        obtain ⟨_, T5, L5, X5, ⟨rfl, Nq5, K5, F0_5, F1_5, F2_5, F3_5⟩, st5⟩ := zq_callC (W := 1) X4 hx hZ rfl hown (hw _ (List.mem_of_getElem? (i := 7) rfl)) (hw _ (List.mem_of_getElem? (i := 8) rfl)) (hw _ (List.mem_of_getElem? (i := 6) rfl)) (hw _ (List.mem_of_getElem? (i := 9) rfl)) (by decide) (zq_rmI l Z a0 hw [] b4 v8_0 x1 h4 h0.size _ _ _ _ E_b4 F_pieceBytes_b4 F_limitNanos_b4 F_deadline_b4 F_pieceDone_b4 g_b4) e4 (by decide) (by decide) (by decide) (by decide) (g := (mkF m 116 #[.val (.long x0), .second, .val (.long x1), .second, .val (.long x2), .second, .val (.long x3), .second, .val (.long x4), .second, .val (.long x5), .second, .val (.int v8_0), .val (.long (4611686018427387903 : Int64)), .second, .val (.long v59_0), .second, .val (.long v82_0), .second, .val (.long x5), .second, .val (.long (x5 ^^^ (6148914691236517205 : Int64))), .second, .unset, .unset, .unset, .unset, .unset, .unset, .unset, .unset, .unset, .unset, .unset] [(.long x1), (.int v8_0), (.ref b4), (.ref b4)])) rfl (by rw [hml]; rfl) (a := b4) (argsL := [(.int v8_0), (.long x1)]) (rest := [(.ref b4)]) (lenOf zq_pd2 rfl) rfl (by show 2 * 0 + _ ≤ _; exact Nat.le_of_eq rfl) (hb hby at_116)
        have E_b4 := E_b4.keep K5
        have ZS := Nat.le_trans ZS K5.1
        have F_pieceBytes_b4 := F0_5
        have F_limitNanos_b4 := F1_5
        have F_deadline_b4 := F2_5
        have F_pieceDone_b4 := F3_5
        obtain ⟨L5, X5, NF⟩ : ∃ L : List Loc, Stand p l e room_1 s m #[(.long x0), (.long x1), (.long x2), (.long x3), (.long x4), (.long x5)] below meth c T5 L 1 4 ∧ Fr h0.size L := ⟨_, X5, Fr.app NF Nq5⟩
        refine zq_go st5 ?_
        show zq_Go p e below s _ _ _ (T5.setTop (mkF m 119 #[.val (.long x0), .second, .val (.long x1), .second, .val (.long x2), .second, .val (.long x3), .second, .val (.long x4), .second, .val (.long x5), .second, .val (.int v8_0), .val (.long (4611686018427387903 : Int64)), .second, .val (.long v59_0), .second, .val (.long v82_0), .second, .val (.long x5), .second, .val (.long (x5 ^^^ (6148914691236517205 : Int64))), .second, .unset, .unset, .unset, .unset, .unset, .unset, .unset, .unset, .unset, .unset, .unset] [(.ref b4)]))
        refine zq_go (fun _ k => XS.astore X5.here hx rfl (hb hby at_119) rfl rfl (l' := #[.val (.long x0), .second, .val (.long x1), .second, .val (.long x2), .second, .val (.long x3), .second, .val (.long x4), .second, .val (.long x5), .second, .val (.int v8_0), .val (.long (4611686018427387903 : Int64)), .second, .val (.long v59_0), .second, .val (.long v82_0), .second, .val (.long x5), .second, .val (.long (x5 ^^^ (6148914691236517205 : Int64))), .second, .val (.ref b4), .unset, .unset, .unset, .unset, .unset, .unset, .unset, .unset, .unset, .unset]) rfl k) ?_
        show zq_Go p e below s _ _ _ (T5.setTop (mkF m 121 #[.val (.long x0), .second, .val (.long x1), .second, .val (.long x2), .second, .val (.long x3), .second, .val (.long x4), .second, .val (.long x5), .second, .val (.int v8_0), .val (.long (4611686018427387903 : Int64)), .second, .val (.long v59_0), .second, .val (.long v82_0), .second, .val (.long x5), .second, .val (.long (x5 ^^^ (6148914691236517205 : Int64))), .second, .val (.ref b4), .unset, .unset, .unset, .unset, .unset, .unset, .unset, .unset, .unset, .unset] []))
        refine zq_go (fun _ k => XS.aload X5.here hx rfl (hb hby at_121) rfl rfl k) ?_
        show zq_Go p e below s _ _ _ (T5.setTop (mkF m 123 #[.val (.long x0), .second, .val (.long x1), .second, .val (.long x2), .second, .val (.long x3), .second, .val (.long x4), .second, .val (.long x5), .second, .val (.int v8_0), .val (.long (4611686018427387903 : Int64)), .second, .val (.long v59_0), .second, .val (.long v82_0), .second, .val (.long x5), .second, .val (.long (x5 ^^^ (6148914691236517205 : Int64))), .second, .val (.ref b4), .unset, .unset, .unset, .unset, .unset, .unset, .unset, .unset, .unset, .unset] [(.ref b4)]))
        refine zq_go (fun _ k => XS.lload X5.here hx rfl (hb hby at_123) rfl k) ?_
        show zq_Go p e below s _ _ _ (T5.setTop (mkF m 125 #[.val (.long x0), .second, .val (.long x1), .second, .val (.long x2), .second, .val (.long x3), .second, .val (.long x4), .second, .val (.long x5), .second, .val (.int v8_0), .val (.long (4611686018427387903 : Int64)), .second, .val (.long v59_0), .second, .val (.long v82_0), .second, .val (.long x5), .second, .val (.long (x5 ^^^ (6148914691236517205 : Int64))), .second, .val (.ref b4), .unset, .unset, .unset, .unset, .unset, .unset, .unset, .unset, .unset, .unset] [(.long x2), (.ref b4)]))
        obtain ⟨_, T6, L6, X6, ⟨rfl, Nq6, K6, F0_6, F1_6, F2_6, F3_6⟩, st6⟩ := zq_callV (W := 0) X5 hx hZ hown (hw _ (List.mem_of_getElem? (i := 17) rfl)) (hw _ (List.mem_of_getElem? (i := 18) rfl)) (hw _ (List.mem_of_getElem? (i := 20) rfl)) (hw _ (List.mem_of_getElem? (i := 19) rfl)) (hw _ (List.mem_of_getElem? (i := 6) rfl)) (hw _ (List.mem_of_getElem? (i := 21) rfl)) (by decide) (zq_rmS l Z a0 hw [] b4 x2 T5.heap h0.size _ _ _ _ E_b4 F_pieceBytes_b4 F_limitNanos_b4 F_deadline_b4 F_pieceDone_b4 g_b4) rfl E_b4 (by decide) (by decide) (by decide) (by decide) (g := (mkF m 125 #[.val (.long x0), .second, .val (.long x1), .second, .val (.long x2), .second, .val (.long x3), .second, .val (.long x4), .second, .val (.long x5), .second, .val (.int v8_0), .val (.long (4611686018427387903 : Int64)), .second, .val (.long v59_0), .second, .val (.long v82_0), .second, .val (.long x5), .second, .val (.long (x5 ^^^ (6148914691236517205 : Int64))), .second, .val (.ref b4), .unset, .unset, .unset, .unset, .unset, .unset, .unset, .unset, .unset, .unset] [(.long x2), (.ref b4)])) rfl (by rw [hml]; rfl) (a := b4) (argsL := [(.long x2)]) (rest := []) (lenOf zq_pd3 rfl) rfl (by show 2 * 0 + _ ≤ _; exact Nat.le_of_eq rfl) (hb hby at_125)
        have E_b4 := E_b4.keep K6
        have ZS := Nat.le_trans ZS K6.1
        have F_pieceBytes_b4 := F0_6
        have F_limitNanos_b4 := F1_6
        have F_deadline_b4 := F2_6
        have F_pieceDone_b4 := F3_6
        obtain ⟨L6, X6, NF⟩ : ∃ L : List Loc, Stand p l e room_1 s m #[(.long x0), (.long x1), (.long x2), (.long x3), (.long x4), (.long x5)] below meth c T6 L 1 4 ∧ Fr h0.size L := ⟨_, X6, Fr.app NF Nq6⟩
        refine zq_go st6 ?_
        show zq_Go p e below s _ _ _ (T6.setTop (mkF m 128 #[.val (.long x0), .second, .val (.long x1), .second, .val (.long x2), .second, .val (.long x3), .second, .val (.long x4), .second, .val (.long x5), .second, .val (.int v8_0), .val (.long (4611686018427387903 : Int64)), .second, .val (.long v59_0), .second, .val (.long v82_0), .second, .val (.long x5), .second, .val (.long (x5 ^^^ (6148914691236517205 : Int64))), .second, .val (.ref b4), .unset, .unset, .unset, .unset, .unset, .unset, .unset, .unset, .unset, .unset] []))
        refine zq_go (fun _ k => XS.lload X6.here hx rfl (hb hby at_128) rfl k) ?_
        show zq_Go p e below s _ _ _ (T6.setTop (mkF m 130 #[.val (.long x0), .second, .val (.long x1), .second, .val (.long x2), .second, .val (.long x3), .second, .val (.long x4), .second, .val (.long x5), .second, .val (.int v8_0), .val (.long (4611686018427387903 : Int64)), .second, .val (.long v59_0), .second, .val (.long v82_0), .second, .val (.long x5), .second, .val (.long (x5 ^^^ (6148914691236517205 : Int64))), .second, .val (.ref b4), .unset, .unset, .unset, .unset, .unset, .unset, .unset, .unset, .unset, .unset] [(.long v59_0)]))
        refine zq_go (fun _ k => XS.iload X6.here hx rfl (hb hby at_130) rfl k) ?_
        show zq_Go p e below s _ _ _ (T6.setTop (mkF m 132 #[.val (.long x0), .second, .val (.long x1), .second, .val (.long x2), .second, .val (.long x3), .second, .val (.long x4), .second, .val (.long x5), .second, .val (.int v8_0), .val (.long (4611686018427387903 : Int64)), .second, .val (.long v59_0), .second, .val (.long v82_0), .second, .val (.long x5), .second, .val (.long (x5 ^^^ (6148914691236517205 : Int64))), .second, .val (.ref b4), .unset, .unset, .unset, .unset, .unset, .unset, .unset, .unset, .unset, .unset] [(.int v8_0), (.long v59_0)]))
        refine zq_go (fun _ k => XS.i2l X6.here hx rfl (hb hby at_132) rfl k) ?_
        show zq_Go p e below s _ _ _ (T6.setTop (mkF m 133 #[.val (.long x0), .second, .val (.long x1), .second, .val (.long x2), .second, .val (.long x3), .second, .val (.long x4), .second, .val (.long x5), .second, .val (.int v8_0), .val (.long (4611686018427387903 : Int64)), .second, .val (.long v59_0), .second, .val (.long v82_0), .second, .val (.long x5), .second, .val (.long (x5 ^^^ (6148914691236517205 : Int64))), .second, .val (.ref b4), .unset, .unset, .unset, .unset, .unset, .unset, .unset, .unset, .unset, .unset] [(.long (v8_0.toInt64)), (.long v59_0)]))
        refine zq_go (fun _ k => XS.ldiv X6.here hx rfl (hb hby at_133) rfl (zq_nz hpb) k) ?_
        show zq_Go p e below s _ _ _ (T6.setTop (mkF m 134 #[.val (.long x0), .second, .val (.long x1), .second, .val (.long x2), .second, .val (.long x3), .second, .val (.long x4), .second, .val (.long x5), .second, .val (.int v8_0), .val (.long (4611686018427387903 : Int64)), .second, .val (.long v59_0), .second, .val (.long v82_0), .second, .val (.long x5), .second, .val (.long (x5 ^^^ (6148914691236517205 : Int64))), .second, .val (.ref b4), .unset, .unset, .unset, .unset, .unset, .unset, .unset, .unset, .unset, .unset] [(.long (v59_0 / (v8_0.toInt64)))]))
        refine zq_go (fun _ k => XS.lstore X6.here hx rfl (hb hby at_134) rfl (l' := #[.val (.long x0), .second, .val (.long x1), .second, .val (.long x2), .second, .val (.long x3), .second, .val (.long x4), .second, .val (.long x5), .second, .val (.int v8_0), .val (.long (4611686018427387903 : Int64)), .second, .val (.long v59_0), .second, .val (.long v82_0), .second, .val (.long x5), .second, .val (.long (x5 ^^^ (6148914691236517205 : Int64))), .second, .val (.ref b4), .val (.long (v59_0 / (v8_0.toInt64))), .second, .unset, .unset, .unset, .unset, .unset, .unset, .unset, .unset]) rfl k) ?_
        show zq_Go p e below s _ _ _ (T6.setTop (mkF m 136 #[.val (.long x0), .second, .val (.long x1), .second, .val (.long x2), .second, .val (.long x3), .second, .val (.long x4), .second, .val (.long x5), .second, .val (.int v8_0), .val (.long (4611686018427387903 : Int64)), .second, .val (.long v59_0), .second, .val (.long v82_0), .second, .val (.long x5), .second, .val (.long (x5 ^^^ (6148914691236517205 : Int64))), .second, .val (.ref b4), .val (.long (v59_0 / (v8_0.toInt64))), .second, .unset, .unset, .unset, .unset, .unset, .unset, .unset, .unset] []))
        refine zq_go (fun _ k => XS.lload X6.here hx rfl (hb hby at_136) rfl k) ?_
        show zq_Go p e below s _ _ _ (T6.setTop (mkF m 138 #[.val (.long x0), .second, .val (.long x1), .second, .val (.long x2), .second, .val (.long x3), .second, .val (.long x4), .second, .val (.long x5), .second, .val (.int v8_0), .val (.long (4611686018427387903 : Int64)), .second, .val (.long v59_0), .second, .val (.long v82_0), .second, .val (.long x5), .second, .val (.long (x5 ^^^ (6148914691236517205 : Int64))), .second, .val (.ref b4), .val (.long (v59_0 / (v8_0.toInt64))), .second, .unset, .unset, .unset, .unset, .unset, .unset, .unset, .unset] [(.long v59_0)]))
        refine zq_go (fun _ k => XS.lload X6.here hx rfl (hb hby at_138) rfl k) ?_
        show zq_Go p e below s _ _ _ (T6.setTop (mkF m 140 #[.val (.long x0), .second, .val (.long x1), .second, .val (.long x2), .second, .val (.long x3), .second, .val (.long x4), .second, .val (.long x5), .second, .val (.int v8_0), .val (.long (4611686018427387903 : Int64)), .second, .val (.long v59_0), .second, .val (.long v82_0), .second, .val (.long x5), .second, .val (.long (x5 ^^^ (6148914691236517205 : Int64))), .second, .val (.ref b4), .val (.long (v59_0 / (v8_0.toInt64))), .second, .unset, .unset, .unset, .unset, .unset, .unset, .unset, .unset] [(.long v82_0), (.long v59_0)]))
        refine zq_go (fun _ k => XS.ladd X6.here hx rfl (hb hby at_140) rfl k) ?_
        show zq_Go p e below s _ _ _ (T6.setTop (mkF m 141 #[.val (.long x0), .second, .val (.long x1), .second, .val (.long x2), .second, .val (.long x3), .second, .val (.long x4), .second, .val (.long x5), .second, .val (.int v8_0), .val (.long (4611686018427387903 : Int64)), .second, .val (.long v59_0), .second, .val (.long v82_0), .second, .val (.long x5), .second, .val (.long (x5 ^^^ (6148914691236517205 : Int64))), .second, .val (.ref b4), .val (.long (v59_0 / (v8_0.toInt64))), .second, .unset, .unset, .unset, .unset, .unset, .unset, .unset, .unset] [(.long (v59_0 + v82_0))]))
        refine zq_go (fun _ k => XS.iload X6.here hx rfl (hb hby at_141) rfl k) ?_
        show zq_Go p e below s _ _ _ (T6.setTop (mkF m 143 #[.val (.long x0), .second, .val (.long x1), .second, .val (.long x2), .second, .val (.long x3), .second, .val (.long x4), .second, .val (.long x5), .second, .val (.int v8_0), .val (.long (4611686018427387903 : Int64)), .second, .val (.long v59_0), .second, .val (.long v82_0), .second, .val (.long x5), .second, .val (.long (x5 ^^^ (6148914691236517205 : Int64))), .second, .val (.ref b4), .val (.long (v59_0 / (v8_0.toInt64))), .second, .unset, .unset, .unset, .unset, .unset, .unset, .unset, .unset] [(.int v8_0), (.long (v59_0 + v82_0))]))
        refine zq_go (fun _ k => XS.i2l X6.here hx rfl (hb hby at_143) rfl k) ?_
        show zq_Go p e below s _ _ _ (T6.setTop (mkF m 144 #[.val (.long x0), .second, .val (.long x1), .second, .val (.long x2), .second, .val (.long x3), .second, .val (.long x4), .second, .val (.long x5), .second, .val (.int v8_0), .val (.long (4611686018427387903 : Int64)), .second, .val (.long v59_0), .second, .val (.long v82_0), .second, .val (.long x5), .second, .val (.long (x5 ^^^ (6148914691236517205 : Int64))), .second, .val (.ref b4), .val (.long (v59_0 / (v8_0.toInt64))), .second, .unset, .unset, .unset, .unset, .unset, .unset, .unset, .unset] [(.long (v8_0.toInt64)), (.long (v59_0 + v82_0))]))
        refine zq_go (fun _ k => XS.ldiv X6.here hx rfl (hb hby at_144) rfl (zq_nz hpb) k) ?_
        show zq_Go p e below s _ _ _ (T6.setTop (mkF m 145 #[.val (.long x0), .second, .val (.long x1), .second, .val (.long x2), .second, .val (.long x3), .second, .val (.long x4), .second, .val (.long x5), .second, .val (.int v8_0), .val (.long (4611686018427387903 : Int64)), .second, .val (.long v59_0), .second, .val (.long v82_0), .second, .val (.long x5), .second, .val (.long (x5 ^^^ (6148914691236517205 : Int64))), .second, .val (.ref b4), .val (.long (v59_0 / (v8_0.toInt64))), .second, .unset, .unset, .unset, .unset, .unset, .unset, .unset, .unset] [(.long ((v59_0 + v82_0) / (v8_0.toInt64)))]))
        refine zq_go (fun _ k => XS.lstore X6.here hx rfl (hb hby at_145) rfl (l' := #[.val (.long x0), .second, .val (.long x1), .second, .val (.long x2), .second, .val (.long x3), .second, .val (.long x4), .second, .val (.long x5), .second, .val (.int v8_0), .val (.long (4611686018427387903 : Int64)), .second, .val (.long v59_0), .second, .val (.long v82_0), .second, .val (.long x5), .second, .val (.long (x5 ^^^ (6148914691236517205 : Int64))), .second, .val (.ref b4), .val (.long (v59_0 / (v8_0.toInt64))), .second, .val (.long ((v59_0 + v82_0) / (v8_0.toInt64))), .second, .unset, .unset, .unset, .unset, .unset, .unset]) rfl k) ?_
        show zq_Go p e below s _ _ _ (T6.setTop (mkF m 147 #[.val (.long x0), .second, .val (.long x1), .second, .val (.long x2), .second, .val (.long x3), .second, .val (.long x4), .second, .val (.long x5), .second, .val (.int v8_0), .val (.long (4611686018427387903 : Int64)), .second, .val (.long v59_0), .second, .val (.long v82_0), .second, .val (.long x5), .second, .val (.long (x5 ^^^ (6148914691236517205 : Int64))), .second, .val (.ref b4), .val (.long (v59_0 / (v8_0.toInt64))), .second, .val (.long ((v59_0 + v82_0) / (v8_0.toInt64))), .second, .unset, .unset, .unset, .unset, .unset, .unset] []))
        refine zq_go (fun _ k => XS.lload X6.here hx rfl (hb hby at_147) rfl k) ?_
        show zq_Go p e below s _ _ _ (T6.setTop (mkF m 149 #[.val (.long x0), .second, .val (.long x1), .second, .val (.long x2), .second, .val (.long x3), .second, .val (.long x4), .second, .val (.long x5), .second, .val (.int v8_0), .val (.long (4611686018427387903 : Int64)), .second, .val (.long v59_0), .second, .val (.long v82_0), .second, .val (.long x5), .second, .val (.long (x5 ^^^ (6148914691236517205 : Int64))), .second, .val (.ref b4), .val (.long (v59_0 / (v8_0.toInt64))), .second, .val (.long ((v59_0 + v82_0) / (v8_0.toInt64))), .second, .unset, .unset, .unset, .unset, .unset, .unset] [(.long (v59_0 / (v8_0.toInt64)))]))
        refine zq_go (fun _ k => XS.lconst X6.here hx rfl (hb hby at_149) k) ?_
        show zq_Go p e below s _ _ _ (T6.setTop (mkF m 150 #[.val (.long x0), .second, .val (.long x1), .second, .val (.long x2), .second, .val (.long x3), .second, .val (.long x4), .second, .val (.long x5), .second, .val (.int v8_0), .val (.long (4611686018427387903 : Int64)), .second, .val (.long v59_0), .second, .val (.long v82_0), .second, .val (.long x5), .second, .val (.long (x5 ^^^ (6148914691236517205 : Int64))), .second, .val (.ref b4), .val (.long (v59_0 / (v8_0.toInt64))), .second, .val (.long ((v59_0 + v82_0) / (v8_0.toInt64))), .second, .unset, .unset, .unset, .unset, .unset, .unset] [(.long (0 : Int64)), (.long (v59_0 / (v8_0.toInt64)))]))
        refine zq_go (fun _ k => XS.lcmp X6.here hx rfl (hb hby at_150) rfl k) ?_
        show zq_Go p e below s _ _ _ (T6.setTop (mkF m 151 #[.val (.long x0), .second, .val (.long x1), .second, .val (.long x2), .second, .val (.long x3), .second, .val (.long x4), .second, .val (.long x5), .second, .val (.int v8_0), .val (.long (4611686018427387903 : Int64)), .second, .val (.long v59_0), .second, .val (.long v82_0), .second, .val (.long x5), .second, .val (.long (x5 ^^^ (6148914691236517205 : Int64))), .second, .val (.ref b4), .val (.long (v59_0 / (v8_0.toInt64))), .second, .val (.long ((v59_0 + v82_0) / (v8_0.toInt64))), .second, .unset, .unset, .unset, .unset, .unset, .unset] [(.int (lcmpW (v59_0 / (v8_0.toInt64)) (0 : Int64)))]))
        obtain ⟨v151_0, hv151_0⟩ : ∃ z : Int64, z = (if (0 : Int64) < (v59_0 / (v8_0.toInt64)) then (x5 + x1) else (x2 + x1)) := ⟨_, rfl⟩
        have J151 : ∀ (T0_165j7 : State), Stand p l e room_1 s m #[(.long x0), (.long x1), (.long x2), (.long x3), (.long x4), (.long x5)] below meth c T0_165j7 L6 1 4 → T0_165j7.heap = T6.heap → zq_Go p e below s (zq_one h0.size) room_1.cells room_1.slots (T0_165j7.setTop (mkF m 165 #[.val (.long x0), .second, .val (.long x1), .second, .val (.long x2), .second, .val (.long x3), .second, .val (.long x4), .second, .val (.long x5), .second, .val (.int v8_0), .val (.long (4611686018427387903 : Int64)), .second, .val (.long v59_0), .second, .val (.long v82_0), .second, .val (.long x5), .second, .val (.long (x5 ^^^ (6148914691236517205 : Int64))), .second, .val (.ref b4), .val (.long (v59_0 / (v8_0.toInt64))), .second, .val (.long ((v59_0 + v82_0) / (v8_0.toInt64))), .second, .unset, .unset, .unset, .unset, .unset, .unset] [(.long v151_0)])) := by
          intro T0_165j7 X0_165j7 e0_165j7
          show zq_Go p e below s _ _ _ (T0_165j7.setTop (mkF m 165 #[.val (.long x0), .second, .val (.long x1), .second, .val (.long x2), .second, .val (.long x3), .second, .val (.long x4), .second, .val (.long x5), .second, .val (.int v8_0), .val (.long (4611686018427387903 : Int64)), .second, .val (.long v59_0), .second, .val (.long v82_0), .second, .val (.long x5), .second, .val (.long (x5 ^^^ (6148914691236517205 : Int64))), .second, .val (.ref b4), .val (.long (v59_0 / (v8_0.toInt64))), .second, .val (.long ((v59_0 + v82_0) / (v8_0.toInt64))), .second, .unset, .unset, .unset, .unset, .unset, .unset] [(.long v151_0)]))
          refine zq_go (fun _ k => XS.lstore X0_165j7.here hx rfl (hb hby at_165) rfl (l' := #[.val (.long x0), .second, .val (.long x1), .second, .val (.long x2), .second, .val (.long x3), .second, .val (.long x4), .second, .val (.long x5), .second, .val (.int v8_0), .val (.long (4611686018427387903 : Int64)), .second, .val (.long v59_0), .second, .val (.long v82_0), .second, .val (.long x5), .second, .val (.long (x5 ^^^ (6148914691236517205 : Int64))), .second, .val (.ref b4), .val (.long (v59_0 / (v8_0.toInt64))), .second, .val (.long ((v59_0 + v82_0) / (v8_0.toInt64))), .second, .val (.long v151_0), .second, .unset, .unset, .unset, .unset]) rfl k) ?_
          show zq_Go p e below s _ _ _ (T0_165j7.setTop (mkF m 167 #[.val (.long x0), .second, .val (.long x1), .second, .val (.long x2), .second, .val (.long x3), .second, .val (.long x4), .second, .val (.long x5), .second, .val (.int v8_0), .val (.long (4611686018427387903 : Int64)), .second, .val (.long v59_0), .second, .val (.long v82_0), .second, .val (.long x5), .second, .val (.long (x5 ^^^ (6148914691236517205 : Int64))), .second, .val (.ref b4), .val (.long (v59_0 / (v8_0.toInt64))), .second, .val (.long ((v59_0 + v82_0) / (v8_0.toInt64))), .second, .val (.long v151_0), .second, .unset, .unset, .unset, .unset] []))
          refine zq_go (fun _ k => XS.lload X0_165j7.here hx rfl (hb hby at_167) rfl k) ?_
          show zq_Go p e below s _ _ _ (T0_165j7.setTop (mkF m 169 #[.val (.long x0), .second, .val (.long x1), .second, .val (.long x2), .second, .val (.long x3), .second, .val (.long x4), .second, .val (.long x5), .second, .val (.int v8_0), .val (.long (4611686018427387903 : Int64)), .second, .val (.long v59_0), .second, .val (.long v82_0), .second, .val (.long x5), .second, .val (.long (x5 ^^^ (6148914691236517205 : Int64))), .second, .val (.ref b4), .val (.long (v59_0 / (v8_0.toInt64))), .second, .val (.long ((v59_0 + v82_0) / (v8_0.toInt64))), .second, .val (.long v151_0), .second, .unset, .unset, .unset, .unset] [(.long ((v59_0 + v82_0) / (v8_0.toInt64)))]))
          refine zq_go (fun _ k => XS.lload X0_165j7.here hx rfl (hb hby at_169) rfl k) ?_
          show zq_Go p e below s _ _ _ (T0_165j7.setTop (mkF m 171 #[.val (.long x0), .second, .val (.long x1), .second, .val (.long x2), .second, .val (.long x3), .second, .val (.long x4), .second, .val (.long x5), .second, .val (.int v8_0), .val (.long (4611686018427387903 : Int64)), .second, .val (.long v59_0), .second, .val (.long v82_0), .second, .val (.long x5), .second, .val (.long (x5 ^^^ (6148914691236517205 : Int64))), .second, .val (.ref b4), .val (.long (v59_0 / (v8_0.toInt64))), .second, .val (.long ((v59_0 + v82_0) / (v8_0.toInt64))), .second, .val (.long v151_0), .second, .unset, .unset, .unset, .unset] [(.long (v59_0 / (v8_0.toInt64))), (.long ((v59_0 + v82_0) / (v8_0.toInt64)))]))
          refine zq_go (fun _ k => XS.lcmp X0_165j7.here hx rfl (hb hby at_171) rfl k) ?_
          show zq_Go p e below s _ _ _ (T0_165j7.setTop (mkF m 172 #[.val (.long x0), .second, .val (.long x1), .second, .val (.long x2), .second, .val (.long x3), .second, .val (.long x4), .second, .val (.long x5), .second, .val (.int v8_0), .val (.long (4611686018427387903 : Int64)), .second, .val (.long v59_0), .second, .val (.long v82_0), .second, .val (.long x5), .second, .val (.long (x5 ^^^ (6148914691236517205 : Int64))), .second, .val (.ref b4), .val (.long (v59_0 / (v8_0.toInt64))), .second, .val (.long ((v59_0 + v82_0) / (v8_0.toInt64))), .second, .val (.long v151_0), .second, .unset, .unset, .unset, .unset] [(.int (lcmpW ((v59_0 + v82_0) / (v8_0.toInt64)) (v59_0 / (v8_0.toInt64))))]))
          obtain ⟨v172_0, hv172_0⟩ : ∃ z : Int64, z = (if (v59_0 / (v8_0.toInt64)) < ((v59_0 + v82_0) / (v8_0.toInt64)) then ((x5 ^^^ (6148914691236517205 : Int64)) + x1) else v151_0) := ⟨_, rfl⟩
          have J172 : ∀ (T0_184j8 : State), Stand p l e room_1 s m #[(.long x0), (.long x1), (.long x2), (.long x3), (.long x4), (.long x5)] below meth c T0_184j8 L6 1 4 → T0_184j8.heap = T6.heap → zq_Go p e below s (zq_one h0.size) room_1.cells room_1.slots (T0_184j8.setTop (mkF m 184 #[.val (.long x0), .second, .val (.long x1), .second, .val (.long x2), .second, .val (.long x3), .second, .val (.long x4), .second, .val (.long x5), .second, .val (.int v8_0), .val (.long (4611686018427387903 : Int64)), .second, .val (.long v59_0), .second, .val (.long v82_0), .second, .val (.long x5), .second, .val (.long (x5 ^^^ (6148914691236517205 : Int64))), .second, .val (.ref b4), .val (.long (v59_0 / (v8_0.toInt64))), .second, .val (.long ((v59_0 + v82_0) / (v8_0.toInt64))), .second, .val (.long v151_0), .second, .unset, .unset, .unset, .unset] [(.long v172_0)])) := by
            intro T0_184j8 X0_184j8 e0_184j8
            show zq_Go p e below s _ _ _ (T0_184j8.setTop (mkF m 184 #[.val (.long x0), .second, .val (.long x1), .second, .val (.long x2), .second, .val (.long x3), .second, .val (.long x4), .second, .val (.long x5), .second, .val (.int v8_0), .val (.long (4611686018427387903 : Int64)), .second, .val (.long v59_0), .second, .val (.long v82_0), .second, .val (.long x5), .second, .val (.long (x5 ^^^ (6148914691236517205 : Int64))), .second, .val (.ref b4), .val (.long (v59_0 / (v8_0.toInt64))), .second, .val (.long ((v59_0 + v82_0) / (v8_0.toInt64))), .second, .val (.long v151_0), .second, .unset, .unset, .unset, .unset] [(.long v172_0)]))
            refine zq_go (fun _ k => XS.lstore X0_184j8.here hx rfl (hb hby at_184) rfl (l' := #[.val (.long x0), .second, .val (.long x1), .second, .val (.long x2), .second, .val (.long x3), .second, .val (.long x4), .second, .val (.long x5), .second, .val (.int v8_0), .val (.long (4611686018427387903 : Int64)), .second, .val (.long v59_0), .second, .val (.long v82_0), .second, .val (.long x5), .second, .val (.long (x5 ^^^ (6148914691236517205 : Int64))), .second, .val (.ref b4), .val (.long (v59_0 / (v8_0.toInt64))), .second, .val (.long ((v59_0 + v82_0) / (v8_0.toInt64))), .second, .val (.long v151_0), .second, .val (.long v172_0), .second, .unset, .unset]) rfl k) ?_
            show zq_Go p e below s _ _ _ (T0_184j8.setTop (mkF m 186 #[.val (.long x0), .second, .val (.long x1), .second, .val (.long x2), .second, .val (.long x3), .second, .val (.long x4), .second, .val (.long x5), .second, .val (.int v8_0), .val (.long (4611686018427387903 : Int64)), .second, .val (.long v59_0), .second, .val (.long v82_0), .second, .val (.long x5), .second, .val (.long (x5 ^^^ (6148914691236517205 : Int64))), .second, .val (.ref b4), .val (.long (v59_0 / (v8_0.toInt64))), .second, .val (.long ((v59_0 + v82_0) / (v8_0.toInt64))), .second, .val (.long v151_0), .second, .val (.long v172_0), .second, .unset, .unset] []))
            refine zq_go (fun _ k => XS.aload X0_184j8.here hx rfl (hb hby at_186) rfl rfl k) ?_
            show zq_Go p e below s _ _ _ (T0_184j8.setTop (mkF m 188 #[.val (.long x0), .second, .val (.long x1), .second, .val (.long x2), .second, .val (.long x3), .second, .val (.long x4), .second, .val (.long x5), .second, .val (.int v8_0), .val (.long (4611686018427387903 : Int64)), .second, .val (.long v59_0), .second, .val (.long v82_0), .second, .val (.long x5), .second, .val (.long (x5 ^^^ (6148914691236517205 : Int64))), .second, .val (.ref b4), .val (.long (v59_0 / (v8_0.toInt64))), .second, .val (.long ((v59_0 + v82_0) / (v8_0.toInt64))), .second, .val (.long v151_0), .second, .val (.long v172_0), .second, .unset, .unset] [(.ref b4)]))
            refine zq_go (fun _ k => XS.lload X0_184j8.here hx rfl (hb hby at_188) rfl k) ?_
            show zq_Go p e below s _ _ _ (T0_184j8.setTop (mkF m 190 #[.val (.long x0), .second, .val (.long x1), .second, .val (.long x2), .second, .val (.long x3), .second, .val (.long x4), .second, .val (.long x5), .second, .val (.int v8_0), .val (.long (4611686018427387903 : Int64)), .second, .val (.long v59_0), .second, .val (.long v82_0), .second, .val (.long x5), .second, .val (.long (x5 ^^^ (6148914691236517205 : Int64))), .second, .val (.ref b4), .val (.long (v59_0 / (v8_0.toInt64))), .second, .val (.long ((v59_0 + v82_0) / (v8_0.toInt64))), .second, .val (.long v151_0), .second, .val (.long v172_0), .second, .unset, .unset] [(.long v59_0), (.ref b4)]))
            refine zq_go (fun _ k => XS.lload X0_184j8.here hx rfl (hb hby at_190) rfl k) ?_
            show zq_Go p e below s _ _ _ (T0_184j8.setTop (mkF m 192 #[.val (.long x0), .second, .val (.long x1), .second, .val (.long x2), .second, .val (.long x3), .second, .val (.long x4), .second, .val (.long x5), .second, .val (.int v8_0), .val (.long (4611686018427387903 : Int64)), .second, .val (.long v59_0), .second, .val (.long v82_0), .second, .val (.long x5), .second, .val (.long (x5 ^^^ (6148914691236517205 : Int64))), .second, .val (.ref b4), .val (.long (v59_0 / (v8_0.toInt64))), .second, .val (.long ((v59_0 + v82_0) / (v8_0.toInt64))), .second, .val (.long v151_0), .second, .val (.long v172_0), .second, .unset, .unset] [(.long x5), (.long v59_0), (.ref b4)]))
            obtain ⟨_, T9, L9, X9, ⟨rfl, Nq9, K9, F0_9, F1_9, F2_9, F3_9⟩, st9⟩ := zq_callV (W := 0) X0_184j8 hx hZ hown (hw _ (List.mem_of_getElem? (i := 26) rfl)) (hw _ (List.mem_of_getElem? (i := 27) rfl)) (hw _ (List.mem_of_getElem? (i := 29) rfl)) (hw _ (List.mem_of_getElem? (i := 28) rfl)) (hw _ (List.mem_of_getElem? (i := 6) rfl)) (hw _ (List.mem_of_getElem? (i := 30) rfl)) (by decide) (zq_rmA l Z a0 hw [] b4 v59_0 x5 T6.heap h0.size _ _ _ _ E_b4 F_pieceBytes_b4 F_limitNanos_b4 F_deadline_b4 F_pieceDone_b4 g_b4 (zq_nz hpb)) e0_184j8 E_b4 (by decide) (by decide) (by decide) (by decide) (g := (mkF m 192 #[.val (.long x0), .second, .val (.long x1), .second, .val (.long x2), .second, .val (.long x3), .second, .val (.long x4), .second, .val (.long x5), .second, .val (.int v8_0), .val (.long (4611686018427387903 : Int64)), .second, .val (.long v59_0), .second, .val (.long v82_0), .second, .val (.long x5), .second, .val (.long (x5 ^^^ (6148914691236517205 : Int64))), .second, .val (.ref b4), .val (.long (v59_0 / (v8_0.toInt64))), .second, .val (.long ((v59_0 + v82_0) / (v8_0.toInt64))), .second, .val (.long v151_0), .second, .val (.long v172_0), .second, .unset, .unset] [(.long x5), (.long v59_0), (.ref b4)])) rfl (by rw [hml]; rfl) (a := b4) (argsL := [(.long v59_0), (.long x5)]) (rest := []) (lenOf zq_pd4 rfl) rfl (by show 2 * 0 + _ ≤ _; exact Nat.le_of_eq rfl) (hb hby at_192)
            have E_b4 := E_b4.keep K9
            have ZS := Nat.le_trans ZS K9.1
            have F_pieceBytes_b4 := F0_9
            have F_limitNanos_b4 := F1_9
            have F_deadline_b4 := F2_9
            have F_pieceDone_b4 := F3_9
            obtain ⟨L9, X9, NF⟩ : ∃ L : List Loc, Stand p l e room_1 s m #[(.long x0), (.long x1), (.long x2), (.long x3), (.long x4), (.long x5)] below meth c T9 L 1 4 ∧ Fr h0.size L := ⟨_, X9, Fr.app NF Nq9⟩
            refine zq_go st9 ?_
            show zq_Go p e below s _ _ _ (T9.setTop (mkF m 195 #[.val (.long x0), .second, .val (.long x1), .second, .val (.long x2), .second, .val (.long x3), .second, .val (.long x4), .second, .val (.long x5), .second, .val (.int v8_0), .val (.long (4611686018427387903 : Int64)), .second, .val (.long v59_0), .second, .val (.long v82_0), .second, .val (.long x5), .second, .val (.long (x5 ^^^ (6148914691236517205 : Int64))), .second, .val (.ref b4), .val (.long (v59_0 / (v8_0.toInt64))), .second, .val (.long ((v59_0 + v82_0) / (v8_0.toInt64))), .second, .val (.long v151_0), .second, .val (.long v172_0), .second, .unset, .unset] []))
            refine zq_go (fun _ k => XS.aload X9.here hx rfl (hb hby at_195) rfl rfl k) ?_
            show zq_Go p e below s _ _ _ (T9.setTop (mkF m 197 #[.val (.long x0), .second, .val (.long x1), .second, .val (.long x2), .second, .val (.long x3), .second, .val (.long x4), .second, .val (.long x5), .second, .val (.int v8_0), .val (.long (4611686018427387903 : Int64)), .second, .val (.long v59_0), .second, .val (.long v82_0), .second, .val (.long x5), .second, .val (.long (x5 ^^^ (6148914691236517205 : Int64))), .second, .val (.ref b4), .val (.long (v59_0 / (v8_0.toInt64))), .second, .val (.long ((v59_0 + v82_0) / (v8_0.toInt64))), .second, .val (.long v151_0), .second, .val (.long v172_0), .second, .unset, .unset] [(.ref b4)]))
            obtain ⟨T10, X10, e10, st10⟩ := zq_callVP (W := 0) X9 hx hZ hown (hw _ (List.mem_of_getElem? (i := 31) rfl)) (hw _ (List.mem_of_getElem? (i := 32) rfl)) (hw _ (List.mem_of_getElem? (i := 34) rfl)) (hw _ (List.mem_of_getElem? (i := 33) rfl)) (hw _ (List.mem_of_getElem? (i := 6) rfl)) (hw _ (List.mem_of_getElem? (i := 35) rfl)) (by decide) (zq_rmD l Z a0 hw [] b4 T9.heap _ F_deadline_b4) rfl E_b4 (by decide) (by decide) rfl rfl (by decide) (by decide) (g := (mkF m 197 #[.val (.long x0), .second, .val (.long x1), .second, .val (.long x2), .second, .val (.long x3), .second, .val (.long x4), .second, .val (.long x5), .second, .val (.int v8_0), .val (.long (4611686018427387903 : Int64)), .second, .val (.long v59_0), .second, .val (.long v82_0), .second, .val (.long x5), .second, .val (.long (x5 ^^^ (6148914691236517205 : Int64))), .second, .val (.ref b4), .val (.long (v59_0 / (v8_0.toInt64))), .second, .val (.long ((v59_0 + v82_0) / (v8_0.toInt64))), .second, .val (.long v151_0), .second, .val (.long v172_0), .second, .unset, .unset] [(.ref b4)])) rfl (by rw [hml]; rfl) (argsL := []) (rest := []) (lenOf zq_pd5 rfl) rfl (by show 2 * 0 + _ ≤ _; exact Nat.le_of_eq rfl) (hb hby at_197)
            refine zq_go st10 ?_
            show zq_Go p e below s _ _ _ (T10.setTop (mkF m 200 #[.val (.long x0), .second, .val (.long x1), .second, .val (.long x2), .second, .val (.long x3), .second, .val (.long x4), .second, .val (.long x5), .second, .val (.int v8_0), .val (.long (4611686018427387903 : Int64)), .second, .val (.long v59_0), .second, .val (.long v82_0), .second, .val (.long x5), .second, .val (.long (x5 ^^^ (6148914691236517205 : Int64))), .second, .val (.ref b4), .val (.long (v59_0 / (v8_0.toInt64))), .second, .val (.long ((v59_0 + v82_0) / (v8_0.toInt64))), .second, .val (.long v151_0), .second, .val (.long v172_0), .second, .unset, .unset] [(.long (zq_dl v8_0 x1 (x2 + x1) (0 : Int64) v59_0 x5))]))
            refine zq_go (fun _ k => XS.lload X10.here hx rfl (hb hby at_200) rfl k) ?_
            show zq_Go p e below s _ _ _ (T10.setTop (mkF m 202 #[.val (.long x0), .second, .val (.long x1), .second, .val (.long x2), .second, .val (.long x3), .second, .val (.long x4), .second, .val (.long x5), .second, .val (.int v8_0), .val (.long (4611686018427387903 : Int64)), .second, .val (.long v59_0), .second, .val (.long v82_0), .second, .val (.long x5), .second, .val (.long (x5 ^^^ (6148914691236517205 : Int64))), .second, .val (.ref b4), .val (.long (v59_0 / (v8_0.toInt64))), .second, .val (.long ((v59_0 + v82_0) / (v8_0.toInt64))), .second, .val (.long v151_0), .second, .val (.long v172_0), .second, .unset, .unset] [(.long v151_0), (.long (zq_dl v8_0 x1 (x2 + x1) (0 : Int64) v59_0 x5))]))
            refine zq_go (fun _ k => XS.lcmp X10.here hx rfl (hb hby at_202) rfl k) ?_
            show zq_Go p e below s _ _ _ (T10.setTop (mkF m 203 #[.val (.long x0), .second, .val (.long x1), .second, .val (.long x2), .second, .val (.long x3), .second, .val (.long x4), .second, .val (.long x5), .second, .val (.int v8_0), .val (.long (4611686018427387903 : Int64)), .second, .val (.long v59_0), .second, .val (.long v82_0), .second, .val (.long x5), .second, .val (.long (x5 ^^^ (6148914691236517205 : Int64))), .second, .val (.ref b4), .val (.long (v59_0 / (v8_0.toInt64))), .second, .val (.long ((v59_0 + v82_0) / (v8_0.toInt64))), .second, .val (.long v151_0), .second, .val (.long v172_0), .second, .unset, .unset] [(.int (lcmpW (zq_dl v8_0 x1 (x2 + x1) (0 : Int64) v59_0 x5) v151_0))]))
            refine zq_go (fun _ k => XS.ifNo X10.here hx rfl (hb hby at_203) rfl ((if0 _ _).trans (teq ((lw_eq _ _).mpr (by rw [hv151_0]; exact zq_e1 hpb hx1 _ _ _ : (zq_dl v8_0 x1 (x2 + x1) (0 : Int64) v59_0 x5) = v151_0))).2) k) ?_
            show zq_Go p e below s _ _ _ (T10.setTop (mkF m 206 #[.val (.long x0), .second, .val (.long x1), .second, .val (.long x2), .second, .val (.long x3), .second, .val (.long x4), .second, .val (.long x5), .second, .val (.int v8_0), .val (.long (4611686018427387903 : Int64)), .second, .val (.long v59_0), .second, .val (.long v82_0), .second, .val (.long x5), .second, .val (.long (x5 ^^^ (6148914691236517205 : Int64))), .second, .val (.ref b4), .val (.long (v59_0 / (v8_0.toInt64))), .second, .val (.long ((v59_0 + v82_0) / (v8_0.toInt64))), .second, .val (.long v151_0), .second, .val (.long v172_0), .second, .unset, .unset] []))
            refine zq_go (fun _ k => XS.iconst X10.here hx rfl (hb hby at_206) k) ?_
            show zq_Go p e below s _ _ _ (T10.setTop (mkF m 207 #[.val (.long x0), .second, .val (.long x1), .second, .val (.long x2), .second, .val (.long x3), .second, .val (.long x4), .second, .val (.long x5), .second, .val (.int v8_0), .val (.long (4611686018427387903 : Int64)), .second, .val (.long v59_0), .second, .val (.long v82_0), .second, .val (.long x5), .second, .val (.long (x5 ^^^ (6148914691236517205 : Int64))), .second, .val (.ref b4), .val (.long (v59_0 / (v8_0.toInt64))), .second, .val (.long ((v59_0 + v82_0) / (v8_0.toInt64))), .second, .val (.long v151_0), .second, .val (.long v172_0), .second, .unset, .unset] [(.int (1 : Int32))]))
            refine zq_go (fun _ k => XS.goto X10.here hx rfl (pc0 := 207) (pc' := 211) rfl (hb hby at_207) (by decide) (by decide) k) ?_
            show zq_Go p e below s _ _ _ (T10.setTop (mkF m 211 #[.val (.long x0), .second, .val (.long x1), .second, .val (.long x2), .second, .val (.long x3), .second, .val (.long x4), .second, .val (.long x5), .second, .val (.int v8_0), .val (.long (4611686018427387903 : Int64)), .second, .val (.long v59_0), .second, .val (.long v82_0), .second, .val (.long x5), .second, .val (.long (x5 ^^^ (6148914691236517205 : Int64))), .second, .val (.ref b4), .val (.long (v59_0 / (v8_0.toInt64))), .second, .val (.long ((v59_0 + v82_0) / (v8_0.toInt64))), .second, .val (.long v151_0), .second, .val (.long v172_0), .second, .unset, .unset] [(.int (1 : Int32))]))
            refine zq_go (fun _ k => XS.istore X10.here hx rfl (hb hby at_211) rfl (l' := #[.val (.long x0), .second, .val (.long x1), .second, .val (.long x2), .second, .val (.long x3), .second, .val (.long x4), .second, .val (.long x5), .second, .val (.int v8_0), .val (.long (4611686018427387903 : Int64)), .second, .val (.long v59_0), .second, .val (.long v82_0), .second, .val (.long x5), .second, .val (.long (x5 ^^^ (6148914691236517205 : Int64))), .second, .val (.ref b4), .val (.long (v59_0 / (v8_0.toInt64))), .second, .val (.long ((v59_0 + v82_0) / (v8_0.toInt64))), .second, .val (.long v151_0), .second, .val (.long v172_0), .second, .val (.int (1 : Int32)), .unset]) rfl k) ?_
            show zq_Go p e below s _ _ _ (T10.setTop (mkF m 213 #[.val (.long x0), .second, .val (.long x1), .second, .val (.long x2), .second, .val (.long x3), .second, .val (.long x4), .second, .val (.long x5), .second, .val (.int v8_0), .val (.long (4611686018427387903 : Int64)), .second, .val (.long v59_0), .second, .val (.long v82_0), .second, .val (.long x5), .second, .val (.long (x5 ^^^ (6148914691236517205 : Int64))), .second, .val (.ref b4), .val (.long (v59_0 / (v8_0.toInt64))), .second, .val (.long ((v59_0 + v82_0) / (v8_0.toInt64))), .second, .val (.long v151_0), .second, .val (.long v172_0), .second, .val (.int (1 : Int32)), .unset] []))
            refine zq_go (fun _ k => XS.aload X10.here hx rfl (hb hby at_213) rfl rfl k) ?_
            show zq_Go p e below s _ _ _ (T10.setTop (mkF m 215 #[.val (.long x0), .second, .val (.long x1), .second, .val (.long x2), .second, .val (.long x3), .second, .val (.long x4), .second, .val (.long x5), .second, .val (.int v8_0), .val (.long (4611686018427387903 : Int64)), .second, .val (.long v59_0), .second, .val (.long v82_0), .second, .val (.long x5), .second, .val (.long (x5 ^^^ (6148914691236517205 : Int64))), .second, .val (.ref b4), .val (.long (v59_0 / (v8_0.toInt64))), .second, .val (.long ((v59_0 + v82_0) / (v8_0.toInt64))), .second, .val (.long v151_0), .second, .val (.long v172_0), .second, .val (.int (1 : Int32)), .unset] [(.ref b4)]))
            refine zq_go (fun _ k => XS.lload X10.here hx rfl (hb hby at_215) rfl k) ?_
            show zq_Go p e below s _ _ _ (T10.setTop (mkF m 217 #[.val (.long x0), .second, .val (.long x1), .second, .val (.long x2), .second, .val (.long x3), .second, .val (.long x4), .second, .val (.long x5), .second, .val (.int v8_0), .val (.long (4611686018427387903 : Int64)), .second, .val (.long v59_0), .second, .val (.long v82_0), .second, .val (.long x5), .second, .val (.long (x5 ^^^ (6148914691236517205 : Int64))), .second, .val (.ref b4), .val (.long (v59_0 / (v8_0.toInt64))), .second, .val (.long ((v59_0 + v82_0) / (v8_0.toInt64))), .second, .val (.long v151_0), .second, .val (.long v172_0), .second, .val (.int (1 : Int32)), .unset] [(.long v82_0), (.ref b4)]))
            refine zq_go (fun _ k => XS.lload X10.here hx rfl (hb hby at_217) rfl k) ?_
            show zq_Go p e below s _ _ _ (T10.setTop (mkF m 219 #[.val (.long x0), .second, .val (.long x1), .second, .val (.long x2), .second, .val (.long x3), .second, .val (.long x4), .second, .val (.long x5), .second, .val (.int v8_0), .val (.long (4611686018427387903 : Int64)), .second, .val (.long v59_0), .second, .val (.long v82_0), .second, .val (.long x5), .second, .val (.long (x5 ^^^ (6148914691236517205 : Int64))), .second, .val (.ref b4), .val (.long (v59_0 / (v8_0.toInt64))), .second, .val (.long ((v59_0 + v82_0) / (v8_0.toInt64))), .second, .val (.long v151_0), .second, .val (.long v172_0), .second, .val (.int (1 : Int32)), .unset] [(.long (x5 ^^^ (6148914691236517205 : Int64))), (.long v82_0), (.ref b4)]))
            obtain ⟨_, T11, L11, X11, ⟨rfl, Nq11, K11, F0_11, F1_11, F2_11, F3_11⟩, st11⟩ := zq_callV (W := 0) X10 hx hZ hown (hw _ (List.mem_of_getElem? (i := 26) rfl)) (hw _ (List.mem_of_getElem? (i := 27) rfl)) (hw _ (List.mem_of_getElem? (i := 29) rfl)) (hw _ (List.mem_of_getElem? (i := 28) rfl)) (hw _ (List.mem_of_getElem? (i := 6) rfl)) (hw _ (List.mem_of_getElem? (i := 30) rfl)) (by decide) (zq_rmA l Z a0 hw [] b4 v82_0 (x5 ^^^ (6148914691236517205 : Int64)) T9.heap h0.size _ _ _ _ E_b4 F_pieceBytes_b4 F_limitNanos_b4 F_deadline_b4 F_pieceDone_b4 g_b4 (zq_nz hpb)) e10 E_b4 (by decide) (by decide) (by decide) (by decide) (g := (mkF m 219 #[.val (.long x0), .second, .val (.long x1), .second, .val (.long x2), .second, .val (.long x3), .second, .val (.long x4), .second, .val (.long x5), .second, .val (.int v8_0), .val (.long (4611686018427387903 : Int64)), .second, .val (.long v59_0), .second, .val (.long v82_0), .second, .val (.long x5), .second, .val (.long (x5 ^^^ (6148914691236517205 : Int64))), .second, .val (.ref b4), .val (.long (v59_0 / (v8_0.toInt64))), .second, .val (.long ((v59_0 + v82_0) / (v8_0.toInt64))), .second, .val (.long v151_0), .second, .val (.long v172_0), .second, .val (.int (1 : Int32)), .unset] [(.long (x5 ^^^ (6148914691236517205 : Int64))), (.long v82_0), (.ref b4)])) rfl (by rw [hml]; rfl) (a := b4) (argsL := [(.long v82_0), (.long (x5 ^^^ (6148914691236517205 : Int64)))]) (rest := []) (lenOf zq_pd4 rfl) rfl (by show 2 * 0 + _ ≤ _; exact Nat.le_of_eq rfl) (hb hby at_219)
            have E_b4 := E_b4.keep K11
            have ZS := Nat.le_trans ZS K11.1
            have F_pieceBytes_b4 := F0_11
            have F_limitNanos_b4 := F1_11
            have F_deadline_b4 := F2_11
            have F_pieceDone_b4 := F3_11
            obtain ⟨L11, X11, NF⟩ : ∃ L : List Loc, Stand p l e room_1 s m #[(.long x0), (.long x1), (.long x2), (.long x3), (.long x4), (.long x5)] below meth c T11 L 1 4 ∧ Fr h0.size L := ⟨_, X11, Fr.app NF Nq11⟩
            refine zq_go st11 ?_
            show zq_Go p e below s _ _ _ (T11.setTop (mkF m 222 #[.val (.long x0), .second, .val (.long x1), .second, .val (.long x2), .second, .val (.long x3), .second, .val (.long x4), .second, .val (.long x5), .second, .val (.int v8_0), .val (.long (4611686018427387903 : Int64)), .second, .val (.long v59_0), .second, .val (.long v82_0), .second, .val (.long x5), .second, .val (.long (x5 ^^^ (6148914691236517205 : Int64))), .second, .val (.ref b4), .val (.long (v59_0 / (v8_0.toInt64))), .second, .val (.long ((v59_0 + v82_0) / (v8_0.toInt64))), .second, .val (.long v151_0), .second, .val (.long v172_0), .second, .val (.int (1 : Int32)), .unset] []))
            refine zq_go (fun _ k => XS.aload X11.here hx rfl (hb hby at_222) rfl rfl k) ?_
            show zq_Go p e below s _ _ _ (T11.setTop (mkF m 224 #[.val (.long x0), .second, .val (.long x1), .second, .val (.long x2), .second, .val (.long x3), .second, .val (.long x4), .second, .val (.long x5), .second, .val (.int v8_0), .val (.long (4611686018427387903 : Int64)), .second, .val (.long v59_0), .second, .val (.long v82_0), .second, .val (.long x5), .second, .val (.long (x5 ^^^ (6148914691236517205 : Int64))), .second, .val (.ref b4), .val (.long (v59_0 / (v8_0.toInt64))), .second, .val (.long ((v59_0 + v82_0) / (v8_0.toInt64))), .second, .val (.long v151_0), .second, .val (.long v172_0), .second, .val (.int (1 : Int32)), .unset] [(.ref b4)]))
            obtain ⟨T12, X12, e12, st12⟩ := zq_callVP (W := 0) X11 hx hZ hown (hw _ (List.mem_of_getElem? (i := 31) rfl)) (hw _ (List.mem_of_getElem? (i := 32) rfl)) (hw _ (List.mem_of_getElem? (i := 34) rfl)) (hw _ (List.mem_of_getElem? (i := 33) rfl)) (hw _ (List.mem_of_getElem? (i := 6) rfl)) (hw _ (List.mem_of_getElem? (i := 35) rfl)) (by decide) (zq_rmD l Z a0 hw [] b4 T11.heap _ F_deadline_b4) rfl E_b4 (by decide) (by decide) rfl rfl (by decide) (by decide) (g := (mkF m 224 #[.val (.long x0), .second, .val (.long x1), .second, .val (.long x2), .second, .val (.long x3), .second, .val (.long x4), .second, .val (.long x5), .second, .val (.int v8_0), .val (.long (4611686018427387903 : Int64)), .second, .val (.long v59_0), .second, .val (.long v82_0), .second, .val (.long x5), .second, .val (.long (x5 ^^^ (6148914691236517205 : Int64))), .second, .val (.ref b4), .val (.long (v59_0 / (v8_0.toInt64))), .second, .val (.long ((v59_0 + v82_0) / (v8_0.toInt64))), .second, .val (.long v151_0), .second, .val (.long v172_0), .second, .val (.int (1 : Int32)), .unset] [(.ref b4)])) rfl (by rw [hml]; rfl) (argsL := []) (rest := []) (lenOf zq_pd5 rfl) rfl (by show 2 * 0 + _ ≤ _; exact Nat.le_of_eq rfl) (hb hby at_224)
            refine zq_go st12 ?_
            show zq_Go p e below s _ _ _ (T12.setTop (mkF m 227 #[.val (.long x0), .second, .val (.long x1), .second, .val (.long x2), .second, .val (.long x3), .second, .val (.long x4), .second, .val (.long x5), .second, .val (.int v8_0), .val (.long (4611686018427387903 : Int64)), .second, .val (.long v59_0), .second, .val (.long v82_0), .second, .val (.long x5), .second, .val (.long (x5 ^^^ (6148914691236517205 : Int64))), .second, .val (.ref b4), .val (.long (v59_0 / (v8_0.toInt64))), .second, .val (.long ((v59_0 + v82_0) / (v8_0.toInt64))), .second, .val (.long v151_0), .second, .val (.long v172_0), .second, .val (.int (1 : Int32)), .unset] [(.long (zq_dl v8_0 x1 (zq_dl v8_0 x1 (x2 + x1) (0 : Int64) v59_0 x5) (zq_pd v8_0 (0 : Int64) v59_0) v82_0 (x5 ^^^ (6148914691236517205 : Int64))))]))
            refine zq_go (fun _ k => XS.lload X12.here hx rfl (hb hby at_227) rfl k) ?_
            show zq_Go p e below s _ _ _ (T12.setTop (mkF m 229 #[.val (.long x0), .second, .val (.long x1), .second, .val (.long x2), .second, .val (.long x3), .second, .val (.long x4), .second, .val (.long x5), .second, .val (.int v8_0), .val (.long (4611686018427387903 : Int64)), .second, .val (.long v59_0), .second, .val (.long v82_0), .second, .val (.long x5), .second, .val (.long (x5 ^^^ (6148914691236517205 : Int64))), .second, .val (.ref b4), .val (.long (v59_0 / (v8_0.toInt64))), .second, .val (.long ((v59_0 + v82_0) / (v8_0.toInt64))), .second, .val (.long v151_0), .second, .val (.long v172_0), .second, .val (.int (1 : Int32)), .unset] [(.long v172_0), (.long (zq_dl v8_0 x1 (zq_dl v8_0 x1 (x2 + x1) (0 : Int64) v59_0 x5) (zq_pd v8_0 (0 : Int64) v59_0) v82_0 (x5 ^^^ (6148914691236517205 : Int64))))]))
            refine zq_go (fun _ k => XS.lcmp X12.here hx rfl (hb hby at_229) rfl k) ?_
            show zq_Go p e below s _ _ _ (T12.setTop (mkF m 230 #[.val (.long x0), .second, .val (.long x1), .second, .val (.long x2), .second, .val (.long x3), .second, .val (.long x4), .second, .val (.long x5), .second, .val (.int v8_0), .val (.long (4611686018427387903 : Int64)), .second, .val (.long v59_0), .second, .val (.long v82_0), .second, .val (.long x5), .second, .val (.long (x5 ^^^ (6148914691236517205 : Int64))), .second, .val (.ref b4), .val (.long (v59_0 / (v8_0.toInt64))), .second, .val (.long ((v59_0 + v82_0) / (v8_0.toInt64))), .second, .val (.long v151_0), .second, .val (.long v172_0), .second, .val (.int (1 : Int32)), .unset] [(.int (lcmpW (zq_dl v8_0 x1 (zq_dl v8_0 x1 (x2 + x1) (0 : Int64) v59_0 x5) (zq_pd v8_0 (0 : Int64) v59_0) v82_0 (x5 ^^^ (6148914691236517205 : Int64))) v172_0))]))
            refine zq_go (fun _ k => XS.ifNo X12.here hx rfl (hb hby at_230) rfl ((if0 _ _).trans (teq ((lw_eq _ _).mpr (by rw [hv172_0, hv151_0, ← zq_e1 hpb hx1]; exact zq_e2 hpb hx1 hx2 _ _ _ : (zq_dl v8_0 x1 (zq_dl v8_0 x1 (x2 + x1) (0 : Int64) v59_0 x5) (zq_pd v8_0 (0 : Int64) v59_0) v82_0 (x5 ^^^ (6148914691236517205 : Int64))) = v172_0))).2) k) ?_
            show zq_Go p e below s _ _ _ (T12.setTop (mkF m 233 #[.val (.long x0), .second, .val (.long x1), .second, .val (.long x2), .second, .val (.long x3), .second, .val (.long x4), .second, .val (.long x5), .second, .val (.int v8_0), .val (.long (4611686018427387903 : Int64)), .second, .val (.long v59_0), .second, .val (.long v82_0), .second, .val (.long x5), .second, .val (.long (x5 ^^^ (6148914691236517205 : Int64))), .second, .val (.ref b4), .val (.long (v59_0 / (v8_0.toInt64))), .second, .val (.long ((v59_0 + v82_0) / (v8_0.toInt64))), .second, .val (.long v151_0), .second, .val (.long v172_0), .second, .val (.int (1 : Int32)), .unset] []))
            refine zq_go (fun _ k => XS.iconst X12.here hx rfl (hb hby at_233) k) ?_
            show zq_Go p e below s _ _ _ (T12.setTop (mkF m 234 #[.val (.long x0), .second, .val (.long x1), .second, .val (.long x2), .second, .val (.long x3), .second, .val (.long x4), .second, .val (.long x5), .second, .val (.int v8_0), .val (.long (4611686018427387903 : Int64)), .second, .val (.long v59_0), .second, .val (.long v82_0), .second, .val (.long x5), .second, .val (.long (x5 ^^^ (6148914691236517205 : Int64))), .second, .val (.ref b4), .val (.long (v59_0 / (v8_0.toInt64))), .second, .val (.long ((v59_0 + v82_0) / (v8_0.toInt64))), .second, .val (.long v151_0), .second, .val (.long v172_0), .second, .val (.int (1 : Int32)), .unset] [(.int (1 : Int32))]))
            refine zq_go (fun _ k => XS.goto X12.here hx rfl (pc0 := 234) (pc' := 238) rfl (hb hby at_234) (by decide) (by decide) k) ?_
            show zq_Go p e below s _ _ _ (T12.setTop (mkF m 238 #[.val (.long x0), .second, .val (.long x1), .second, .val (.long x2), .second, .val (.long x3), .second, .val (.long x4), .second, .val (.long x5), .second, .val (.int v8_0), .val (.long (4611686018427387903 : Int64)), .second, .val (.long v59_0), .second, .val (.long v82_0), .second, .val (.long x5), .second, .val (.long (x5 ^^^ (6148914691236517205 : Int64))), .second, .val (.ref b4), .val (.long (v59_0 / (v8_0.toInt64))), .second, .val (.long ((v59_0 + v82_0) / (v8_0.toInt64))), .second, .val (.long v151_0), .second, .val (.long v172_0), .second, .val (.int (1 : Int32)), .unset] [(.int (1 : Int32))]))
            refine zq_go (fun _ k => XS.istore X12.here hx rfl (hb hby at_238) rfl (l' := #[.val (.long x0), .second, .val (.long x1), .second, .val (.long x2), .second, .val (.long x3), .second, .val (.long x4), .second, .val (.long x5), .second, .val (.int v8_0), .val (.long (4611686018427387903 : Int64)), .second, .val (.long v59_0), .second, .val (.long v82_0), .second, .val (.long x5), .second, .val (.long (x5 ^^^ (6148914691236517205 : Int64))), .second, .val (.ref b4), .val (.long (v59_0 / (v8_0.toInt64))), .second, .val (.long ((v59_0 + v82_0) / (v8_0.toInt64))), .second, .val (.long v151_0), .second, .val (.long v172_0), .second, .val (.int (1 : Int32)), .val (.int (1 : Int32))]) rfl k) ?_
            show zq_Go p e below s _ _ _ (T12.setTop (mkF m 240 #[.val (.long x0), .second, .val (.long x1), .second, .val (.long x2), .second, .val (.long x3), .second, .val (.long x4), .second, .val (.long x5), .second, .val (.int v8_0), .val (.long (4611686018427387903 : Int64)), .second, .val (.long v59_0), .second, .val (.long v82_0), .second, .val (.long x5), .second, .val (.long (x5 ^^^ (6148914691236517205 : Int64))), .second, .val (.ref b4), .val (.long (v59_0 / (v8_0.toInt64))), .second, .val (.long ((v59_0 + v82_0) / (v8_0.toInt64))), .second, .val (.long v151_0), .second, .val (.long v172_0), .second, .val (.int (1 : Int32)), .val (.int (1 : Int32))] []))
            refine zq_go (fun _ k => XS.iload X12.here hx rfl (hb hby at_240) rfl k) ?_
            show zq_Go p e below s _ _ _ (T12.setTop (mkF m 242 #[.val (.long x0), .second, .val (.long x1), .second, .val (.long x2), .second, .val (.long x3), .second, .val (.long x4), .second, .val (.long x5), .second, .val (.int v8_0), .val (.long (4611686018427387903 : Int64)), .second, .val (.long v59_0), .second, .val (.long v82_0), .second, .val (.long x5), .second, .val (.long (x5 ^^^ (6148914691236517205 : Int64))), .second, .val (.ref b4), .val (.long (v59_0 / (v8_0.toInt64))), .second, .val (.long ((v59_0 + v82_0) / (v8_0.toInt64))), .second, .val (.long v151_0), .second, .val (.long v172_0), .second, .val (.int (1 : Int32)), .val (.int (1 : Int32))] [(.int (1 : Int32))]))
            refine zq_go (fun _ k => XS.ifNo X12.here hx rfl (hb hby at_242) rfl ((if0 _ _).trans (feq (by decide : ¬ ((1 : Int32) = (0 : Int32)))).1) k) ?_
            show zq_Go p e below s _ _ _ (T12.setTop (mkF m 245 #[.val (.long x0), .second, .val (.long x1), .second, .val (.long x2), .second, .val (.long x3), .second, .val (.long x4), .second, .val (.long x5), .second, .val (.int v8_0), .val (.long (4611686018427387903 : Int64)), .second, .val (.long v59_0), .second, .val (.long v82_0), .second, .val (.long x5), .second, .val (.long (x5 ^^^ (6148914691236517205 : Int64))), .second, .val (.ref b4), .val (.long (v59_0 / (v8_0.toInt64))), .second, .val (.long ((v59_0 + v82_0) / (v8_0.toInt64))), .second, .val (.long v151_0), .second, .val (.long v172_0), .second, .val (.int (1 : Int32)), .val (.int (1 : Int32))] []))
            refine zq_go (fun _ k => XS.iload X12.here hx rfl (hb hby at_245) rfl k) ?_
            show zq_Go p e below s _ _ _ (T12.setTop (mkF m 247 #[.val (.long x0), .second, .val (.long x1), .second, .val (.long x2), .second, .val (.long x3), .second, .val (.long x4), .second, .val (.long x5), .second, .val (.int v8_0), .val (.long (4611686018427387903 : Int64)), .second, .val (.long v59_0), .second, .val (.long v82_0), .second, .val (.long x5), .second, .val (.long (x5 ^^^ (6148914691236517205 : Int64))), .second, .val (.ref b4), .val (.long (v59_0 / (v8_0.toInt64))), .second, .val (.long ((v59_0 + v82_0) / (v8_0.toInt64))), .second, .val (.long v151_0), .second, .val (.long v172_0), .second, .val (.int (1 : Int32)), .val (.int (1 : Int32))] [(.int (1 : Int32))]))
            refine zq_go (fun _ k => XS.ifNo X12.here hx rfl (hb hby at_247) rfl ((if0 _ _).trans (feq (by decide : ¬ ((1 : Int32) = (0 : Int32)))).1) k) ?_
            show zq_Go p e below s _ _ _ (T12.setTop (mkF m 250 #[.val (.long x0), .second, .val (.long x1), .second, .val (.long x2), .second, .val (.long x3), .second, .val (.long x4), .second, .val (.long x5), .second, .val (.int v8_0), .val (.long (4611686018427387903 : Int64)), .second, .val (.long v59_0), .second, .val (.long v82_0), .second, .val (.long x5), .second, .val (.long (x5 ^^^ (6148914691236517205 : Int64))), .second, .val (.ref b4), .val (.long (v59_0 / (v8_0.toInt64))), .second, .val (.long ((v59_0 + v82_0) / (v8_0.toInt64))), .second, .val (.long v151_0), .second, .val (.long v172_0), .second, .val (.int (1 : Int32)), .val (.int (1 : Int32))] []))
            refine zq_go (fun _ k => XS.iconst X12.here hx rfl (hb hby at_250) k) ?_
            show zq_Go p e below s _ _ _ (T12.setTop (mkF m 251 #[.val (.long x0), .second, .val (.long x1), .second, .val (.long x2), .second, .val (.long x3), .second, .val (.long x4), .second, .val (.long x5), .second, .val (.int v8_0), .val (.long (4611686018427387903 : Int64)), .second, .val (.long v59_0), .second, .val (.long v82_0), .second, .val (.long x5), .second, .val (.long (x5 ^^^ (6148914691236517205 : Int64))), .second, .val (.ref b4), .val (.long (v59_0 / (v8_0.toInt64))), .second, .val (.long ((v59_0 + v82_0) / (v8_0.toInt64))), .second, .val (.long v151_0), .second, .val (.long v172_0), .second, .val (.int (1 : Int32)), .val (.int (1 : Int32))] [(.int (1 : Int32))]))
            refine zq_go (fun _ k => XS.goto X12.here hx rfl (pc0 := 251) (pc' := 255) rfl (hb hby at_251) (by decide) (by decide) k) ?_
            show zq_Go p e below s _ _ _ (T12.setTop (mkF m 255 #[.val (.long x0), .second, .val (.long x1), .second, .val (.long x2), .second, .val (.long x3), .second, .val (.long x4), .second, .val (.long x5), .second, .val (.int v8_0), .val (.long (4611686018427387903 : Int64)), .second, .val (.long v59_0), .second, .val (.long v82_0), .second, .val (.long x5), .second, .val (.long (x5 ^^^ (6148914691236517205 : Int64))), .second, .val (.ref b4), .val (.long (v59_0 / (v8_0.toInt64))), .second, .val (.long ((v59_0 + v82_0) / (v8_0.toInt64))), .second, .val (.long v151_0), .second, .val (.long v172_0), .second, .val (.int (1 : Int32)), .val (.int (1 : Int32))] [(.int (1 : Int32))]))
            exact zq_retN X12 hx hlk (t := .boolean) hret (by simp) (hb hby at_255) ⟨rfl, NF⟩ (by decide) (by decide)
          by_cases hc172 : (v59_0 / (v8_0.toInt64)) < ((v59_0 + v82_0) / (v8_0.toInt64))
          ·
            rw [if_pos hc172] at hv172_0
            rw [hv172_0] at J172
            refine zq_go (fun _ k => XS.ifNo X0_165j7.here hx rfl (hb hby at_172) rfl ((if0 _ _).trans (tlt ((lw_gt _ _).mpr hc172)).2.2.2) k) ?_
            show zq_Go p e below s _ _ _ (T0_165j7.setTop (mkF m 175 #[.val (.long x0), .second, .val (.long x1), .second, .val (.long x2), .second, .val (.long x3), .second, .val (.long x4), .second, .val (.long x5), .second, .val (.int v8_0), .val (.long (4611686018427387903 : Int64)), .second, .val (.long v59_0), .second, .val (.long v82_0), .second, .val (.long x5), .second, .val (.long (x5 ^^^ (6148914691236517205 : Int64))), .second, .val (.ref b4), .val (.long (v59_0 / (v8_0.toInt64))), .second, .val (.long ((v59_0 + v82_0) / (v8_0.toInt64))), .second, .val (.long v151_0), .second, .unset, .unset, .unset, .unset] []))
            refine zq_go (fun _ k => XS.lload X0_165j7.here hx rfl (hb hby at_175) rfl k) ?_
            show zq_Go p e below s _ _ _ (T0_165j7.setTop (mkF m 177 #[.val (.long x0), .second, .val (.long x1), .second, .val (.long x2), .second, .val (.long x3), .second, .val (.long x4), .second, .val (.long x5), .second, .val (.int v8_0), .val (.long (4611686018427387903 : Int64)), .second, .val (.long v59_0), .second, .val (.long v82_0), .second, .val (.long x5), .second, .val (.long (x5 ^^^ (6148914691236517205 : Int64))), .second, .val (.ref b4), .val (.long (v59_0 / (v8_0.toInt64))), .second, .val (.long ((v59_0 + v82_0) / (v8_0.toInt64))), .second, .val (.long v151_0), .second, .unset, .unset, .unset, .unset] [(.long (x5 ^^^ (6148914691236517205 : Int64)))]))
            refine zq_go (fun _ k => XS.lloadN X0_165j7.here hx rfl (hb hby at_177) rfl k) ?_
            show zq_Go p e below s _ _ _ (T0_165j7.setTop (mkF m 178 #[.val (.long x0), .second, .val (.long x1), .second, .val (.long x2), .second, .val (.long x3), .second, .val (.long x4), .second, .val (.long x5), .second, .val (.int v8_0), .val (.long (4611686018427387903 : Int64)), .second, .val (.long v59_0), .second, .val (.long v82_0), .second, .val (.long x5), .second, .val (.long (x5 ^^^ (6148914691236517205 : Int64))), .second, .val (.ref b4), .val (.long (v59_0 / (v8_0.toInt64))), .second, .val (.long ((v59_0 + v82_0) / (v8_0.toInt64))), .second, .val (.long v151_0), .second, .unset, .unset, .unset, .unset] [(.long x1), (.long (x5 ^^^ (6148914691236517205 : Int64)))]))
            refine zq_go (fun _ k => XS.ladd X0_165j7.here hx rfl (hb hby at_178) rfl k) ?_
            show zq_Go p e below s _ _ _ (T0_165j7.setTop (mkF m 179 #[.val (.long x0), .second, .val (.long x1), .second, .val (.long x2), .second, .val (.long x3), .second, .val (.long x4), .second, .val (.long x5), .second, .val (.int v8_0), .val (.long (4611686018427387903 : Int64)), .second, .val (.long v59_0), .second, .val (.long v82_0), .second, .val (.long x5), .second, .val (.long (x5 ^^^ (6148914691236517205 : Int64))), .second, .val (.ref b4), .val (.long (v59_0 / (v8_0.toInt64))), .second, .val (.long ((v59_0 + v82_0) / (v8_0.toInt64))), .second, .val (.long v151_0), .second, .unset, .unset, .unset, .unset] [(.long ((x5 ^^^ (6148914691236517205 : Int64)) + x1))]))
            refine zq_go (fun _ k => XS.goto X0_165j7.here hx rfl (pc0 := 179) (pc' := 184) rfl (hb hby at_179) (by decide) (by decide) k) ?_
            exact J172 _ X0_165j7 e0_165j7
          rw [if_neg hc172] at hv172_0
          rw [hv172_0] at J172
          refine zq_go (fun _ k => XS.ifYes X0_165j7.here hx rfl (pc0 := 172) (pc' := 182) rfl (hb hby at_172) rfl ((if0 _ _).trans (flt (fun q => hc172 ((lw_gt _ _).mp q))).2.2.2) (by decide) (by decide) k) ?_
          show zq_Go p e below s _ _ _ (T0_165j7.setTop (mkF m 182 #[.val (.long x0), .second, .val (.long x1), .second, .val (.long x2), .second, .val (.long x3), .second, .val (.long x4), .second, .val (.long x5), .second, .val (.int v8_0), .val (.long (4611686018427387903 : Int64)), .second, .val (.long v59_0), .second, .val (.long v82_0), .second, .val (.long x5), .second, .val (.long (x5 ^^^ (6148914691236517205 : Int64))), .second, .val (.ref b4), .val (.long (v59_0 / (v8_0.toInt64))), .second, .val (.long ((v59_0 + v82_0) / (v8_0.toInt64))), .second, .val (.long v151_0), .second, .unset, .unset, .unset, .unset] []))
          refine zq_go (fun _ k => XS.lload X0_165j7.here hx rfl (hb hby at_182) rfl k) ?_
          exact J172 _ X0_165j7 e0_165j7
        by_cases hc151 : (0 : Int64) < (v59_0 / (v8_0.toInt64))
        ·
          rw [if_pos hc151] at hv151_0
          rw [hv151_0] at J151
          refine zq_go (fun _ k => XS.ifNo X6.here hx rfl (hb hby at_151) rfl ((if0 _ _).trans (tlt ((lw_gt _ _).mpr hc151)).2.2.2) k) ?_
          show zq_Go p e below s _ _ _ (T6.setTop (mkF m 154 #[.val (.long x0), .second, .val (.long x1), .second, .val (.long x2), .second, .val (.long x3), .second, .val (.long x4), .second, .val (.long x5), .second, .val (.int v8_0), .val (.long (4611686018427387903 : Int64)), .second, .val (.long v59_0), .second, .val (.long v82_0), .second, .val (.long x5), .second, .val (.long (x5 ^^^ (6148914691236517205 : Int64))), .second, .val (.ref b4), .val (.long (v59_0 / (v8_0.toInt64))), .second, .val (.long ((v59_0 + v82_0) / (v8_0.toInt64))), .second, .unset, .unset, .unset, .unset, .unset, .unset] []))
          refine zq_go (fun _ k => XS.lload X6.here hx rfl (hb hby at_154) rfl k) ?_
          show zq_Go p e below s _ _ _ (T6.setTop (mkF m 156 #[.val (.long x0), .second, .val (.long x1), .second, .val (.long x2), .second, .val (.long x3), .second, .val (.long x4), .second, .val (.long x5), .second, .val (.int v8_0), .val (.long (4611686018427387903 : Int64)), .second, .val (.long v59_0), .second, .val (.long v82_0), .second, .val (.long x5), .second, .val (.long (x5 ^^^ (6148914691236517205 : Int64))), .second, .val (.ref b4), .val (.long (v59_0 / (v8_0.toInt64))), .second, .val (.long ((v59_0 + v82_0) / (v8_0.toInt64))), .second, .unset, .unset, .unset, .unset, .unset, .unset] [(.long x5)]))
          refine zq_go (fun _ k => XS.lloadN X6.here hx rfl (hb hby at_156) rfl k) ?_
          show zq_Go p e below s _ _ _ (T6.setTop (mkF m 157 #[.val (.long x0), .second, .val (.long x1), .second, .val (.long x2), .second, .val (.long x3), .second, .val (.long x4), .second, .val (.long x5), .second, .val (.int v8_0), .val (.long (4611686018427387903 : Int64)), .second, .val (.long v59_0), .second, .val (.long v82_0), .second, .val (.long x5), .second, .val (.long (x5 ^^^ (6148914691236517205 : Int64))), .second, .val (.ref b4), .val (.long (v59_0 / (v8_0.toInt64))), .second, .val (.long ((v59_0 + v82_0) / (v8_0.toInt64))), .second, .unset, .unset, .unset, .unset, .unset, .unset] [(.long x1), (.long x5)]))
          refine zq_go (fun _ k => XS.ladd X6.here hx rfl (hb hby at_157) rfl k) ?_
          show zq_Go p e below s _ _ _ (T6.setTop (mkF m 158 #[.val (.long x0), .second, .val (.long x1), .second, .val (.long x2), .second, .val (.long x3), .second, .val (.long x4), .second, .val (.long x5), .second, .val (.int v8_0), .val (.long (4611686018427387903 : Int64)), .second, .val (.long v59_0), .second, .val (.long v82_0), .second, .val (.long x5), .second, .val (.long (x5 ^^^ (6148914691236517205 : Int64))), .second, .val (.ref b4), .val (.long (v59_0 / (v8_0.toInt64))), .second, .val (.long ((v59_0 + v82_0) / (v8_0.toInt64))), .second, .unset, .unset, .unset, .unset, .unset, .unset] [(.long (x5 + x1))]))
          refine zq_go (fun _ k => XS.goto X6.here hx rfl (pc0 := 158) (pc' := 165) rfl (hb hby at_158) (by decide) (by decide) k) ?_
          exact J151 _ X6 rfl
        rw [if_neg hc151] at hv151_0
        rw [hv151_0] at J151
        refine zq_go (fun _ k => XS.ifYes X6.here hx rfl (pc0 := 151) (pc' := 161) rfl (hb hby at_151) rfl ((if0 _ _).trans (flt (fun q => hc151 ((lw_gt _ _).mp q))).2.2.2) (by decide) (by decide) k) ?_
        show zq_Go p e below s _ _ _ (T6.setTop (mkF m 161 #[.val (.long x0), .second, .val (.long x1), .second, .val (.long x2), .second, .val (.long x3), .second, .val (.long x4), .second, .val (.long x5), .second, .val (.int v8_0), .val (.long (4611686018427387903 : Int64)), .second, .val (.long v59_0), .second, .val (.long v82_0), .second, .val (.long x5), .second, .val (.long (x5 ^^^ (6148914691236517205 : Int64))), .second, .val (.ref b4), .val (.long (v59_0 / (v8_0.toInt64))), .second, .val (.long ((v59_0 + v82_0) / (v8_0.toInt64))), .second, .unset, .unset, .unset, .unset, .unset, .unset] []))
        refine zq_go (fun _ k => XS.lload X6.here hx rfl (hb hby at_161) rfl k) ?_
        show zq_Go p e below s _ _ _ (T6.setTop (mkF m 163 #[.val (.long x0), .second, .val (.long x1), .second, .val (.long x2), .second, .val (.long x3), .second, .val (.long x4), .second, .val (.long x5), .second, .val (.int v8_0), .val (.long (4611686018427387903 : Int64)), .second, .val (.long v59_0), .second, .val (.long v82_0), .second, .val (.long x5), .second, .val (.long (x5 ^^^ (6148914691236517205 : Int64))), .second, .val (.ref b4), .val (.long (v59_0 / (v8_0.toInt64))), .second, .val (.long ((v59_0 + v82_0) / (v8_0.toInt64))), .second, .unset, .unset, .unset, .unset, .unset, .unset] [(.long x2)]))
        refine zq_go (fun _ k => XS.lloadN X6.here hx rfl (hb hby at_163) rfl k) ?_
        show zq_Go p e below s _ _ _ (T6.setTop (mkF m 164 #[.val (.long x0), .second, .val (.long x1), .second, .val (.long x2), .second, .val (.long x3), .second, .val (.long x4), .second, .val (.long x5), .second, .val (.int v8_0), .val (.long (4611686018427387903 : Int64)), .second, .val (.long v59_0), .second, .val (.long v82_0), .second, .val (.long x5), .second, .val (.long (x5 ^^^ (6148914691236517205 : Int64))), .second, .val (.ref b4), .val (.long (v59_0 / (v8_0.toInt64))), .second, .val (.long ((v59_0 + v82_0) / (v8_0.toInt64))), .second, .unset, .unset, .unset, .unset, .unset, .unset] [(.long x1), (.long x2)]))
        refine zq_go (fun _ k => XS.ladd X6.here hx rfl (hb hby at_164) rfl k) ?_
        exact J151 _ X6 rfl
      by_cases hc82 : (((x0.toUInt64 >>> ((42 : Int32) &&& 0x3f).toInt64.toUInt64).toInt64) &&& (1 : Int64)) = (0 : Int64)
      ·
        rw [if_pos hc82] at hv82_0
        rw [hv82_0] at J82
        refine zq_go (fun _ k => XS.ifNo X0_74j2.here hx rfl (hb hby at_82) rfl ((if0 _ _).trans (teq ((lw_eq _ _).mpr hc82)).2) k) ?_
        show zq_Go p e below s _ _ _ (T0_74j2.setTop (mkF m 85 #[.val (.long x0), .second, .val (.long x1), .second, .val (.long x2), .second, .val (.long x3), .second, .val (.long x4), .second, .val (.long x5), .second, .val (.int v8_0), .val (.long (4611686018427387903 : Int64)), .second, .val (.long v59_0), .second, .val (.long (x4 &&& (4611686018427387903 : Int64))), .second, .unset, .unset, .unset, .unset, .unset, .unset, .unset, .unset, .unset, .unset, .unset, .unset, .unset, .unset, .unset] []))
        refine zq_go (fun _ k => XS.lload X0_74j2.here hx rfl (hb hby at_85) rfl k) ?_
        show zq_Go p e below s _ _ _ (T0_74j2.setTop (mkF m 87 #[.val (.long x0), .second, .val (.long x1), .second, .val (.long x2), .second, .val (.long x3), .second, .val (.long x4), .second, .val (.long x5), .second, .val (.int v8_0), .val (.long (4611686018427387903 : Int64)), .second, .val (.long v59_0), .second, .val (.long (x4 &&& (4611686018427387903 : Int64))), .second, .unset, .unset, .unset, .unset, .unset, .unset, .unset, .unset, .unset, .unset, .unset, .unset, .unset, .unset, .unset] [(.long (x4 &&& (4611686018427387903 : Int64)))]))
        refine zq_go (X0_74j2.ldc2Long hx hown (mvT hZ (hw _ (List.mem_of_getElem? (i := 2) rfl))) (g := (mkF m 87 #[.val (.long x0), .second, .val (.long x1), .second, .val (.long x2), .second, .val (.long x3), .second, .val (.long x4), .second, .val (.long x5), .second, .val (.int v8_0), .val (.long (4611686018427387903 : Int64)), .second, .val (.long v59_0), .second, .val (.long (x4 &&& (4611686018427387903 : Int64))), .second, .unset, .unset, .unset, .unset, .unset, .unset, .unset, .unset, .unset, .unset, .unset, .unset, .unset, .unset, .unset] [(.long (x4 &&& (4611686018427387903 : Int64)))])) rfl (hb hby at_87)) ?_
        show zq_Go p e below s _ _ _ (T0_74j2.setTop (mkF m 90 #[.val (.long x0), .second, .val (.long x1), .second, .val (.long x2), .second, .val (.long x3), .second, .val (.long x4), .second, .val (.long x5), .second, .val (.int v8_0), .val (.long (4611686018427387903 : Int64)), .second, .val (.long v59_0), .second, .val (.long (x4 &&& (4611686018427387903 : Int64))), .second, .unset, .unset, .unset, .unset, .unset, .unset, .unset, .unset, .unset, .unset, .unset, .unset, .unset, .unset, .unset] [(.long (3 : Int64)), (.long (x4 &&& (4611686018427387903 : Int64)))]))
        refine zq_go (fun _ k => XS.iload X0_74j2.here hx rfl (hb hby at_90) rfl k) ?_
        show zq_Go p e below s _ _ _ (T0_74j2.setTop (mkF m 92 #[.val (.long x0), .second, .val (.long x1), .second, .val (.long x2), .second, .val (.long x3), .second, .val (.long x4), .second, .val (.long x5), .second, .val (.int v8_0), .val (.long (4611686018427387903 : Int64)), .second, .val (.long v59_0), .second, .val (.long (x4 &&& (4611686018427387903 : Int64))), .second, .unset, .unset, .unset, .unset, .unset, .unset, .unset, .unset, .unset, .unset, .unset, .unset, .unset, .unset, .unset] [(.int v8_0), (.long (3 : Int64)), (.long (x4 &&& (4611686018427387903 : Int64)))]))
        refine zq_go (fun _ k => XS.i2l X0_74j2.here hx rfl (hb hby at_92) rfl k) ?_
        show zq_Go p e below s _ _ _ (T0_74j2.setTop (mkF m 93 #[.val (.long x0), .second, .val (.long x1), .second, .val (.long x2), .second, .val (.long x3), .second, .val (.long x4), .second, .val (.long x5), .second, .val (.int v8_0), .val (.long (4611686018427387903 : Int64)), .second, .val (.long v59_0), .second, .val (.long (x4 &&& (4611686018427387903 : Int64))), .second, .unset, .unset, .unset, .unset, .unset, .unset, .unset, .unset, .unset, .unset, .unset, .unset, .unset, .unset, .unset] [(.long (v8_0.toInt64)), (.long (3 : Int64)), (.long (x4 &&& (4611686018427387903 : Int64)))]))
        refine zq_go (fun _ k => XS.lmul X0_74j2.here hx rfl (hb hby at_93) rfl k) ?_
        show zq_Go p e below s _ _ _ (T0_74j2.setTop (mkF m 94 #[.val (.long x0), .second, .val (.long x1), .second, .val (.long x2), .second, .val (.long x3), .second, .val (.long x4), .second, .val (.long x5), .second, .val (.int v8_0), .val (.long (4611686018427387903 : Int64)), .second, .val (.long v59_0), .second, .val (.long (x4 &&& (4611686018427387903 : Int64))), .second, .unset, .unset, .unset, .unset, .unset, .unset, .unset, .unset, .unset, .unset, .unset, .unset, .unset, .unset, .unset] [(.long ((3 : Int64) * (v8_0.toInt64))), (.long (x4 &&& (4611686018427387903 : Int64)))]))
        refine zq_go (fun _ k => XS.lrem X0_74j2.here hx rfl (hb hby at_94) rfl (zq_nz3 hpb) k) ?_
        show zq_Go p e below s _ _ _ (T0_74j2.setTop (mkF m 95 #[.val (.long x0), .second, .val (.long x1), .second, .val (.long x2), .second, .val (.long x3), .second, .val (.long x4), .second, .val (.long x5), .second, .val (.int v8_0), .val (.long (4611686018427387903 : Int64)), .second, .val (.long v59_0), .second, .val (.long (x4 &&& (4611686018427387903 : Int64))), .second, .unset, .unset, .unset, .unset, .unset, .unset, .unset, .unset, .unset, .unset, .unset, .unset, .unset, .unset, .unset] [(.long ((x4 &&& (4611686018427387903 : Int64)) - ((x4 &&& (4611686018427387903 : Int64)) / ((3 : Int64) * (v8_0.toInt64))) * ((3 : Int64) * (v8_0.toInt64))))]))
        refine zq_go (fun _ k => XS.lstore X0_74j2.here hx rfl (hb hby at_95) rfl (l' := #[.val (.long x0), .second, .val (.long x1), .second, .val (.long x2), .second, .val (.long x3), .second, .val (.long x4), .second, .val (.long x5), .second, .val (.int v8_0), .val (.long (4611686018427387903 : Int64)), .second, .val (.long v59_0), .second, .val (.long ((x4 &&& (4611686018427387903 : Int64)) - ((x4 &&& (4611686018427387903 : Int64)) / ((3 : Int64) * (v8_0.toInt64))) * ((3 : Int64) * (v8_0.toInt64)))), .second, .unset, .unset, .unset, .unset, .unset, .unset, .unset, .unset, .unset, .unset, .unset, .unset, .unset, .unset, .unset]) rfl k) ?_
        exact J82 _ X0_74j2 e0_74j2
      rw [if_neg hc82] at hv82_0
      rw [hv82_0] at J82
      refine zq_go (fun _ k => XS.ifYes X0_74j2.here hx rfl (pc0 := 82) (pc' := 97) rfl (hb hby at_82) rfl ((if0 _ _).trans (feq (fun q => hc82 ((lw_eq _ _).mp q))).2) (by decide) (by decide) k) ?_
      exact J82 _ X0_74j2 e0_74j2
    by_cases hc59 : (((x0.toUInt64 >>> ((41 : Int32) &&& 0x3f).toInt64.toUInt64).toInt64) &&& (1 : Int64)) = (0 : Int64)
    ·
      rw [if_pos hc59] at hv59_0
      rw [hv59_0] at J59
      refine zq_go (fun _ k => XS.ifNo X0_30j1.here hx rfl (hb hby at_59) rfl ((if0 _ _).trans (teq ((lw_eq _ _).mpr hc59)).2) k) ?_
      show zq_Go p e below s _ _ _ (T0_30j1.setTop (mkF m 62 #[.val (.long x0), .second, .val (.long x1), .second, .val (.long x2), .second, .val (.long x3), .second, .val (.long x4), .second, .val (.long x5), .second, .val (.int v8_0), .val (.long (4611686018427387903 : Int64)), .second, .val (.long (x3 &&& (4611686018427387903 : Int64))), .second, .val (.long (x4 &&& (4611686018427387903 : Int64))), .second, .unset, .unset, .unset, .unset, .unset, .unset, .unset, .unset, .unset, .unset, .unset, .unset, .unset, .unset, .unset] []))
      refine zq_go (fun _ k => XS.lload X0_30j1.here hx rfl (hb hby at_62) rfl k) ?_
      show zq_Go p e below s _ _ _ (T0_30j1.setTop (mkF m 64 #[.val (.long x0), .second, .val (.long x1), .second, .val (.long x2), .second, .val (.long x3), .second, .val (.long x4), .second, .val (.long x5), .second, .val (.int v8_0), .val (.long (4611686018427387903 : Int64)), .second, .val (.long (x3 &&& (4611686018427387903 : Int64))), .second, .val (.long (x4 &&& (4611686018427387903 : Int64))), .second, .unset, .unset, .unset, .unset, .unset, .unset, .unset, .unset, .unset, .unset, .unset, .unset, .unset, .unset, .unset] [(.long (x3 &&& (4611686018427387903 : Int64)))]))
      refine zq_go (X0_30j1.ldc2Long hx hown (mvT hZ (hw _ (List.mem_of_getElem? (i := 2) rfl))) (g := (mkF m 64 #[.val (.long x0), .second, .val (.long x1), .second, .val (.long x2), .second, .val (.long x3), .second, .val (.long x4), .second, .val (.long x5), .second, .val (.int v8_0), .val (.long (4611686018427387903 : Int64)), .second, .val (.long (x3 &&& (4611686018427387903 : Int64))), .second, .val (.long (x4 &&& (4611686018427387903 : Int64))), .second, .unset, .unset, .unset, .unset, .unset, .unset, .unset, .unset, .unset, .unset, .unset, .unset, .unset, .unset, .unset] [(.long (x3 &&& (4611686018427387903 : Int64)))])) rfl (hb hby at_64)) ?_
      show zq_Go p e below s _ _ _ (T0_30j1.setTop (mkF m 67 #[.val (.long x0), .second, .val (.long x1), .second, .val (.long x2), .second, .val (.long x3), .second, .val (.long x4), .second, .val (.long x5), .second, .val (.int v8_0), .val (.long (4611686018427387903 : Int64)), .second, .val (.long (x3 &&& (4611686018427387903 : Int64))), .second, .val (.long (x4 &&& (4611686018427387903 : Int64))), .second, .unset, .unset, .unset, .unset, .unset, .unset, .unset, .unset, .unset, .unset, .unset, .unset, .unset, .unset, .unset] [(.long (3 : Int64)), (.long (x3 &&& (4611686018427387903 : Int64)))]))
      refine zq_go (fun _ k => XS.iload X0_30j1.here hx rfl (hb hby at_67) rfl k) ?_
      show zq_Go p e below s _ _ _ (T0_30j1.setTop (mkF m 69 #[.val (.long x0), .second, .val (.long x1), .second, .val (.long x2), .second, .val (.long x3), .second, .val (.long x4), .second, .val (.long x5), .second, .val (.int v8_0), .val (.long (4611686018427387903 : Int64)), .second, .val (.long (x3 &&& (4611686018427387903 : Int64))), .second, .val (.long (x4 &&& (4611686018427387903 : Int64))), .second, .unset, .unset, .unset, .unset, .unset, .unset, .unset, .unset, .unset, .unset, .unset, .unset, .unset, .unset, .unset] [(.int v8_0), (.long (3 : Int64)), (.long (x3 &&& (4611686018427387903 : Int64)))]))
      refine zq_go (fun _ k => XS.i2l X0_30j1.here hx rfl (hb hby at_69) rfl k) ?_
      show zq_Go p e below s _ _ _ (T0_30j1.setTop (mkF m 70 #[.val (.long x0), .second, .val (.long x1), .second, .val (.long x2), .second, .val (.long x3), .second, .val (.long x4), .second, .val (.long x5), .second, .val (.int v8_0), .val (.long (4611686018427387903 : Int64)), .second, .val (.long (x3 &&& (4611686018427387903 : Int64))), .second, .val (.long (x4 &&& (4611686018427387903 : Int64))), .second, .unset, .unset, .unset, .unset, .unset, .unset, .unset, .unset, .unset, .unset, .unset, .unset, .unset, .unset, .unset] [(.long (v8_0.toInt64)), (.long (3 : Int64)), (.long (x3 &&& (4611686018427387903 : Int64)))]))
      refine zq_go (fun _ k => XS.lmul X0_30j1.here hx rfl (hb hby at_70) rfl k) ?_
      show zq_Go p e below s _ _ _ (T0_30j1.setTop (mkF m 71 #[.val (.long x0), .second, .val (.long x1), .second, .val (.long x2), .second, .val (.long x3), .second, .val (.long x4), .second, .val (.long x5), .second, .val (.int v8_0), .val (.long (4611686018427387903 : Int64)), .second, .val (.long (x3 &&& (4611686018427387903 : Int64))), .second, .val (.long (x4 &&& (4611686018427387903 : Int64))), .second, .unset, .unset, .unset, .unset, .unset, .unset, .unset, .unset, .unset, .unset, .unset, .unset, .unset, .unset, .unset] [(.long ((3 : Int64) * (v8_0.toInt64))), (.long (x3 &&& (4611686018427387903 : Int64)))]))
      refine zq_go (fun _ k => XS.lrem X0_30j1.here hx rfl (hb hby at_71) rfl (zq_nz3 hpb) k) ?_
      show zq_Go p e below s _ _ _ (T0_30j1.setTop (mkF m 72 #[.val (.long x0), .second, .val (.long x1), .second, .val (.long x2), .second, .val (.long x3), .second, .val (.long x4), .second, .val (.long x5), .second, .val (.int v8_0), .val (.long (4611686018427387903 : Int64)), .second, .val (.long (x3 &&& (4611686018427387903 : Int64))), .second, .val (.long (x4 &&& (4611686018427387903 : Int64))), .second, .unset, .unset, .unset, .unset, .unset, .unset, .unset, .unset, .unset, .unset, .unset, .unset, .unset, .unset, .unset] [(.long ((x3 &&& (4611686018427387903 : Int64)) - ((x3 &&& (4611686018427387903 : Int64)) / ((3 : Int64) * (v8_0.toInt64))) * ((3 : Int64) * (v8_0.toInt64))))]))
      refine zq_go (fun _ k => XS.lstore X0_30j1.here hx rfl (hb hby at_72) rfl (l' := #[.val (.long x0), .second, .val (.long x1), .second, .val (.long x2), .second, .val (.long x3), .second, .val (.long x4), .second, .val (.long x5), .second, .val (.int v8_0), .val (.long (4611686018427387903 : Int64)), .second, .val (.long ((x3 &&& (4611686018427387903 : Int64)) - ((x3 &&& (4611686018427387903 : Int64)) / ((3 : Int64) * (v8_0.toInt64))) * ((3 : Int64) * (v8_0.toInt64)))), .second, .val (.long (x4 &&& (4611686018427387903 : Int64))), .second, .unset, .unset, .unset, .unset, .unset, .unset, .unset, .unset, .unset, .unset, .unset, .unset, .unset, .unset, .unset]) rfl k) ?_
      exact J59 _ X0_30j1 e0_30j1
    rw [if_neg hc59] at hv59_0
    rw [hv59_0] at J59
    refine zq_go (fun _ k => XS.ifYes X0_30j1.here hx rfl (pc0 := 59) (pc' := 74) rfl (hb hby at_59) rfl ((if0 _ _).trans (feq (fun q => hc59 ((lw_eq _ _).mp q))).2) (by decide) (by decide) k) ?_
    exact J59 _ X0_30j1 e0_30j1
  by_cases hc8 : (((x0.toUInt64 >>> ((40 : Int32) &&& 0x3f).toInt64.toUInt64).toInt64) &&& (1 : Int64)) = (0 : Int64)
  ·
    rw [if_pos hc8] at hv8_0
    rw [hv8_0] at J8
    refine zq_go (fun _ k => XS.ifYes X0.here hx rfl (pc0 := 8) (pc' := 22) rfl (hb hby at_8) rfl ((if0 _ _).trans (teq ((lw_eq _ _).mpr hc8)).1) (by decide) (by decide) k) ?_
    show zq_Go p e below s _ _ _ (s₁.setTop (mkF m 22 #[.val (.long x0), .second, .val (.long x1), .second, .val (.long x2), .second, .val (.long x3), .second, .val (.long x4), .second, .val (.long x5), .second, .unset, .unset, .unset, .unset, .unset, .unset, .unset, .unset, .unset, .unset, .unset, .unset, .unset, .unset, .unset, .unset, .unset, .unset, .unset, .unset, .unset, .unset] []))
    refine zq_go (fun _ k => XS.lloadN X0.here hx rfl (hb hby at_22) rfl k) ?_
    show zq_Go p e below s _ _ _ (s₁.setTop (mkF m 23 #[.val (.long x0), .second, .val (.long x1), .second, .val (.long x2), .second, .val (.long x3), .second, .val (.long x4), .second, .val (.long x5), .second, .unset, .unset, .unset, .unset, .unset, .unset, .unset, .unset, .unset, .unset, .unset, .unset, .unset, .unset, .unset, .unset, .unset, .unset, .unset, .unset, .unset, .unset] [(.long x0)]))
    refine zq_go (X0.ldc2Long hx hown (mvT hZ (hw _ (List.mem_of_getElem? (i := 0) rfl))) (g := (mkF m 23 #[.val (.long x0), .second, .val (.long x1), .second, .val (.long x2), .second, .val (.long x3), .second, .val (.long x4), .second, .val (.long x5), .second, .unset, .unset, .unset, .unset, .unset, .unset, .unset, .unset, .unset, .unset, .unset, .unset, .unset, .unset, .unset, .unset, .unset, .unset, .unset, .unset, .unset, .unset] [(.long x0)])) rfl (hb hby at_23)) ?_
    show zq_Go p e below s _ _ _ (s₁.setTop (mkF m 26 #[.val (.long x0), .second, .val (.long x1), .second, .val (.long x2), .second, .val (.long x3), .second, .val (.long x4), .second, .val (.long x5), .second, .unset, .unset, .unset, .unset, .unset, .unset, .unset, .unset, .unset, .unset, .unset, .unset, .unset, .unset, .unset, .unset, .unset, .unset, .unset, .unset, .unset, .unset] [(.long (15 : Int64)), (.long x0)]))
    refine zq_go (fun _ k => XS.land X0.here hx rfl (hb hby at_26) rfl k) ?_
    show zq_Go p e below s _ _ _ (s₁.setTop (mkF m 27 #[.val (.long x0), .second, .val (.long x1), .second, .val (.long x2), .second, .val (.long x3), .second, .val (.long x4), .second, .val (.long x5), .second, .unset, .unset, .unset, .unset, .unset, .unset, .unset, .unset, .unset, .unset, .unset, .unset, .unset, .unset, .unset, .unset, .unset, .unset, .unset, .unset, .unset, .unset] [(.long (x0 &&& (15 : Int64)))]))
    refine zq_go (fun _ k => XS.lconst X0.here hx rfl (hb hby at_27) k) ?_
    show zq_Go p e below s _ _ _ (s₁.setTop (mkF m 28 #[.val (.long x0), .second, .val (.long x1), .second, .val (.long x2), .second, .val (.long x3), .second, .val (.long x4), .second, .val (.long x5), .second, .unset, .unset, .unset, .unset, .unset, .unset, .unset, .unset, .unset, .unset, .unset, .unset, .unset, .unset, .unset, .unset, .unset, .unset, .unset, .unset, .unset, .unset] [(.long (1 : Int64)), (.long (x0 &&& (15 : Int64)))]))
    refine zq_go (fun _ k => XS.ladd X0.here hx rfl (hb hby at_28) rfl k) ?_
    show zq_Go p e below s _ _ _ (s₁.setTop (mkF m 29 #[.val (.long x0), .second, .val (.long x1), .second, .val (.long x2), .second, .val (.long x3), .second, .val (.long x4), .second, .val (.long x5), .second, .unset, .unset, .unset, .unset, .unset, .unset, .unset, .unset, .unset, .unset, .unset, .unset, .unset, .unset, .unset, .unset, .unset, .unset, .unset, .unset, .unset, .unset] [(.long ((x0 &&& (15 : Int64)) + (1 : Int64)))]))
    refine zq_go (fun _ k => XS.l2i X0.here hx rfl (hb hby at_29) rfl k) ?_
    exact J8 _ X0 e0
  rw [if_neg hc8] at hv8_0
  rw [hv8_0] at J8
  refine zq_go (fun _ k => XS.ifNo X0.here hx rfl (hb hby at_8) rfl ((if0 _ _).trans (feq (fun q => hc8 ((lw_eq _ _).mp q))).1) k) ?_
  show zq_Go p e below s _ _ _ (s₁.setTop (mkF m 11 #[.val (.long x0), .second, .val (.long x1), .second, .val (.long x2), .second, .val (.long x3), .second, .val (.long x4), .second, .val (.long x5), .second, .unset, .unset, .unset, .unset, .unset, .unset, .unset, .unset, .unset, .unset, .unset, .unset, .unset, .unset, .unset, .unset, .unset, .unset, .unset, .unset, .unset, .unset] []))
  refine zq_go (fun _ k => XS.lloadN X0.here hx rfl (hb hby at_11) rfl k) ?_
  show zq_Go p e below s _ _ _ (s₁.setTop (mkF m 12 #[.val (.long x0), .second, .val (.long x1), .second, .val (.long x2), .second, .val (.long x3), .second, .val (.long x4), .second, .val (.long x5), .second, .unset, .unset, .unset, .unset, .unset, .unset, .unset, .unset, .unset, .unset, .unset, .unset, .unset, .unset, .unset, .unset, .unset, .unset, .unset, .unset, .unset, .unset] [(.long x0)]))
  refine zq_go (X0.ldc2Long hx hown (mvT hZ (hw _ (List.mem_of_getElem? (i := 36) rfl))) (g := (mkF m 12 #[.val (.long x0), .second, .val (.long x1), .second, .val (.long x2), .second, .val (.long x3), .second, .val (.long x4), .second, .val (.long x5), .second, .unset, .unset, .unset, .unset, .unset, .unset, .unset, .unset, .unset, .unset, .unset, .unset, .unset, .unset, .unset, .unset, .unset, .unset, .unset, .unset, .unset, .unset] [(.long x0)])) rfl (hb hby at_12)) ?_
  show zq_Go p e below s _ _ _ (s₁.setTop (mkF m 15 #[.val (.long x0), .second, .val (.long x1), .second, .val (.long x2), .second, .val (.long x3), .second, .val (.long x4), .second, .val (.long x5), .second, .unset, .unset, .unset, .unset, .unset, .unset, .unset, .unset, .unset, .unset, .unset, .unset, .unset, .unset, .unset, .unset, .unset, .unset, .unset, .unset, .unset, .unset] [(.long (1073741823 : Int64)), (.long x0)]))
  refine zq_go (fun _ k => XS.land X0.here hx rfl (hb hby at_15) rfl k) ?_
  show zq_Go p e below s _ _ _ (s₁.setTop (mkF m 16 #[.val (.long x0), .second, .val (.long x1), .second, .val (.long x2), .second, .val (.long x3), .second, .val (.long x4), .second, .val (.long x5), .second, .unset, .unset, .unset, .unset, .unset, .unset, .unset, .unset, .unset, .unset, .unset, .unset, .unset, .unset, .unset, .unset, .unset, .unset, .unset, .unset, .unset, .unset] [(.long (x0 &&& (1073741823 : Int64)))]))
  refine zq_go (fun _ k => XS.lconst X0.here hx rfl (hb hby at_16) k) ?_
  show zq_Go p e below s _ _ _ (s₁.setTop (mkF m 17 #[.val (.long x0), .second, .val (.long x1), .second, .val (.long x2), .second, .val (.long x3), .second, .val (.long x4), .second, .val (.long x5), .second, .unset, .unset, .unset, .unset, .unset, .unset, .unset, .unset, .unset, .unset, .unset, .unset, .unset, .unset, .unset, .unset, .unset, .unset, .unset, .unset, .unset, .unset] [(.long (1 : Int64)), (.long (x0 &&& (1073741823 : Int64)))]))
  refine zq_go (fun _ k => XS.ladd X0.here hx rfl (hb hby at_17) rfl k) ?_
  show zq_Go p e below s _ _ _ (s₁.setTop (mkF m 18 #[.val (.long x0), .second, .val (.long x1), .second, .val (.long x2), .second, .val (.long x3), .second, .val (.long x4), .second, .val (.long x5), .second, .unset, .unset, .unset, .unset, .unset, .unset, .unset, .unset, .unset, .unset, .unset, .unset, .unset, .unset, .unset, .unset, .unset, .unset, .unset, .unset, .unset, .unset] [(.long ((x0 &&& (1073741823 : Int64)) + (1 : Int64)))]))
  refine zq_go (fun _ k => XS.l2i X0.here hx rfl (hb hby at_18) rfl k) ?_
  show zq_Go p e below s _ _ _ (s₁.setTop (mkF m 19 #[.val (.long x0), .second, .val (.long x1), .second, .val (.long x2), .second, .val (.long x3), .second, .val (.long x4), .second, .val (.long x5), .second, .unset, .unset, .unset, .unset, .unset, .unset, .unset, .unset, .unset, .unset, .unset, .unset, .unset, .unset, .unset, .unset, .unset, .unset, .unset, .unset, .unset, .unset] [(.int (((x0 &&& (1073741823 : Int64)) + (1 : Int64)).toInt32))]))
  refine zq_go (fun _ k => XS.goto X0.here hx rfl (pc0 := 19) (pc' := 30) rfl (hb hby at_19) (by decide) (by decide) k) ?_
  exact J8 _ X0 e0
set_option maxRecDepth 65536 in
set_option maxHeartbeats 40000000 in
theorem zq_comes {Post : Tables → Env → Array Value → State → Outcome → State → Prop} (hpost : ∀ tb e args s v u, (limb_1_1.after args s (.returned v) u = true ∧ limb_1_2.after args s (.returned v) u = true ∧ True) → FrameEnd s (.returned v) u (Jvm.fieldLocs frame_1_writes args s ++ Jvm.arrayLocs frame_1_arrays args s ++ Jvm.staticLocs frame_1_statics s) 16 128 → Post tb e args s (.returned v) u) :
    ArmFor flags0 classFile x code maxLocals ret World_1 tables_1 room_1 Calls_1 rest_1 Pre_1 Post := by
  intro l hfl _ _ p e ha hc hk s m args below hf hA hF happ hP
  obtain ⟨hcalls, hrest, hpre⟩ := hP
  obtain ⟨-, -, -, hnamed, -, -, -, hat⟩ := (Spec.applies_iff hf).mp happ
  obtain ⟨hg, hn⟩ := and_e (Cond.before_iff.mp (show (Jvm.Cond.and given_1 narrow_1).before args s = true from hpre))
  obtain ⟨g0, t0⟩ := and_e hg
  obtain ⟨g1, t1⟩ := and_e t0
  obtain ⟨g2, t2⟩ := and_e t1
  obtain ⟨g3, t3⟩ := and_e t2
  obtain ⟨g4, t4⟩ := and_e t3
  obtain ⟨g5, t5⟩ := and_e t4
  obtain ⟨w0, w1, w2, w3, w4, w5, rfl⟩ : ∃ w0 w1 w2 w3 w4 w5 : Value, args = #[w0, w1, w2, w3, w4, w5] := by
    have hs : args.size = 6 := by simpa [Cond.value, given_1] using g0
    obtain ⟨L⟩ := args
    match L, hs with
    | [w0, w1, w2, w3, w4, w5], _ => exact ⟨w0, w1, w2, w3, w4, w5, rfl⟩
  have hw := fun d (hd : d ∈ tables_1) => atoms_spec (ws := Jvm.Cond.code x code maxLocals ret :: tables_1) hat d (List.mem_cons_of_mem _ hd)
  obtain ⟨i0, ei0⟩ := isL_v g1
  obtain rfl : w0 = (.long i0) := Option.some.inj ei0
  obtain ⟨i1, ei1⟩ := isL_v g2
  obtain rfl : w1 = (.long i1) := Option.some.inj ei1
  obtain ⟨i2, ei2⟩ := isL_v g3
  obtain rfl : w2 = (.long i2) := Option.some.inj ei2
  obtain ⟨i3, ei3⟩ := isL_v g4
  obtain rfl : w3 = (.long i3) := Option.some.inj ei3
  obtain ⟨i4, ei4⟩ := isL_v g5
  obtain rfl : w4 = (.long i4) := Option.some.inj ei4
  obtain ⟨i5, ei5⟩ := isL_v t5
  obtain rfl : w5 = (.long i5) := Option.some.inj ei5
  obtain ⟨n, o, h1, h2, h3, _, L, rfl, ⟨rfl, N⟩, hq⟩ := zq_rm0 l s _ hw tables_1 i0 i1 i2 i3 i4 i5 s.heap p e ha hc hk s m _ below hf ((Spec.applies_iff_loose hf).mp happ).1 ⟨rfl, State.Warmed39.refl s, rfl⟩ trivial
  refine ⟨n, _, h1, h2, h3, hpost _ _ _ _ _ _ ⟨Cond.after_iff.mpr rfl, Cond.after_iff.mpr (eq_i res_at (Term.int_eval (1)) rfl), trivial⟩ ⟨hq.1, hq.2.1, (hq.2.2.sift fun y hy => Or.inr (N y hy)).mono (by decide) (by decide)⟩⟩
theorem main_1_1 : Claimed_1_1 := zq_comes fun _ _ _ _ _ _ h hF => ⟨h.1, hF⟩
theorem main_1_2 : Claimed_1_2 := zq_comes fun _ _ _ _ _ _ h hF => ⟨h.2.1, hF⟩
end Jvm.Pilot.@@N@@
namespace Jvm.Pilot.@@N@@
open Jvm Jvm.ClassFile Sem Op Lib Jvm.Free Jvm.Stand Jvm.Pilot.@@N@@.Jvm.D
/-! MADE BY PROGRAM (witnessworld.py) out of the Statement's table words and the real class files: 9 classes; the members and pool entries that the words name. The judged class is class 1, her method 1. -/
namespace start1
open Jvm.ClassFile
def u (s : String) : CpInfo := .utf8 (stringToUtf16 s)
/-- a pool by its gaps: so many unusable entries, then the entry; so many at the end -/
def gap : Nat → List CpInfo → List CpInfo
  | 0, r => r
  | n + 1, r => .unusable :: gap n r
def poolList (es : List (Nat × CpInfo)) (last : Nat) : List CpInfo := es.foldr (fun e r => gap e.1 (e.2 :: r)) (gap last [])
def pool (es : List (Nat × CpInfo)) (last : Nat) : Array CpInfo := ⟨poolList es last⟩
def fileOf (pool : Array CpInfo) (this : Nat) (attrs : Array Attribute := #[]) (ms : Array MethodInfo := #[]) (fl : Nat := 33) (sup : Nat := 0) (ifs : Array Nat := #[]) (fds : Array FieldInfo := #[]) : ClassFile where
  minorVersion := 0
  majorVersion := 65
  constantPool := pool
  accessFlags := fl
  thisClass := this
  superClass := sup
  interfaces := ifs
  fields := fds
  methods := ms
  attributes := attrs
def plain (name : String) (sup : Option ClassId) : Class where
  name := name
  kind := .ordinary
  loader := none
  accessFlags := 33
  super := sup
  interfaces := #[]
  cf := none
  fields := #[]
  methods := #[]
  instanceTypes := #[]
  staticTypes := #[]
  resolved := #[]
  callSites := []
  init := .initialized
  statics := none
  mirror := none

def pool0 : Array CpInfo := pool [(5, u "<init>"), (0, u "()V"), (1, .class_ 10), (1, u "java/lang/Object")] 113

def k0c0 : Code := { maxStack := 0, maxLocals := 1, code := object_method_1_code, exceptionTable := #[], attributes := #[] }
def k0m0 : Method := { name := "<init>", desc := "()V", sig := { parameters := [], returnType := none }, accessFlags := 1, code := some k0c0 }
/-- java/lang/Object -/
def k0 : Class := { plain "java/lang/Object" none with
  accessFlags := 33
  interfaces := #[]
  cf := some (fileOf pool0 8 #[] #[{ accessFlags := 1, nameIndex := 5, descriptorIndex := 6, attributes := #[] }] 33 0 #[] #[])
  fields := #[]
  methods := #[k0m0]
  instanceTypes := #[]
  staticTypes := #[]
  resolved := Array.replicate 124 none
  statics := none }

def pool1 : Array CpInfo := pool [(2, .class_ 4), (1, u "java/lang/Object"), (0, u "<init>"), (0, u "()V"), (0, .long 1073741823), (1, .long 15), (1, .long 4611686018427387903), (1, .long 3), (1, .long 6148914691236517205), (1, .class_ 18), (0, u "com/example/epochlog/epochlog/http/ProgressDeadline"), (0, .methodref 17 20), (0, .nameAndType 5 21), (0, u "(IJ)V"), (0, .methodref 17 23), (0, .nameAndType 24 25), (0, u "start"), (0, u "(J)V"), (0, .methodref 17 27), (0, .nameAndType 28 29), (0, u "advanced"), (0, u "(JJ)V"), (0, .methodref 17 31), (0, .nameAndType 32 33), (0, u "deadline"), (0, u "()J"), (0, .class_ 35), (0, u "com/example/epochlog/epochlog/http/ProgressDeadlineAdvancedPinLaw"), (2, u "law"), (0, u "(JJJJJJ)Z")] 3

def k1m0 : Method := { name := "<init>", desc := "()V", sig := { parameters := [], returnType := none }, accessFlags := 1, code := none }
def k1c1 : Code := { maxStack := 6, maxLocals := 34, code := code, exceptionTable := #[], attributes := #[] }
def k1m1 : Method := { name := "law", desc := "(JJJJJJ)Z", sig := { parameters := [.long, .long, .long, .long, .long, .long], returnType := some .boolean }, accessFlags := 9, code := some k1c1 }
/-- com/example/epochlog/epochlog/http/ProgressDeadlineAdvancedPinLaw -/
def k1 : Class := { plain "com/example/epochlog/epochlog/http/ProgressDeadlineAdvancedPinLaw" (some 0) with
  accessFlags := 49
  interfaces := #[]
  cf := some (fileOf pool1 34 #[] #[{ accessFlags := 1, nameIndex := 5, descriptorIndex := 6, attributes := #[] }, { accessFlags := 9, nameIndex := 38, descriptorIndex := 39, attributes := #[] }] 49 2 #[] #[])
  fields := #[]
  methods := #[k1m0, k1m1]
  instanceTypes := #[]
  staticTypes := #[]
  resolved := Array.replicate 43 none
  statics := none }

def pool2 : Array CpInfo := pool [(1, .methodref 2 3), (0, .class_ 4), (0, .nameAndType 5 6), (0, u "java/lang/Object"), (0, u "<init>"), (0, u "()V"), (0, .fieldref 8 9), (0, .class_ 10), (0, .nameAndType 11 12), (0, u "com/example/epochlog/epochlog/http/ProgressDeadline"), (0, u "pieceBytes"), (0, u "I"), (0, .fieldref 8 14), (0, .nameAndType 15 16), (0, u "limitNanos"), (0, u "J"), (0, .fieldref 8 18), (0, .nameAndType 19 16), (0, u "deadline"), (0, .fieldref 8 21), (0, .nameAndType 22 16), (0, u "pieceDone"), (14, u "(IJ)V"), (2, u "start"), (0, u "(J)V"), (0, u "advanced"), (0, u "(JJ)V"), (1, u "()J")] 19

def k2c0 : Code := { maxStack := 3, maxLocals := 4, code := prog_231_method_1_code, exceptionTable := #[], attributes := #[] }
def k2m0 : Method := { name := "<init>", desc := "(IJ)V", sig := { parameters := [.int, .long], returnType := none }, accessFlags := 0, code := some k2c0 }
def k2c1 : Code := { maxStack := 5, maxLocals := 3, code := prog_231_method_2_code, exceptionTable := #[], attributes := #[] }
def k2m1 : Method := { name := "start", desc := "(J)V", sig := { parameters := [.long], returnType := none }, accessFlags := 0, code := some k2c1 }
def k2c2 : Code := { maxStack := 5, maxLocals := 5, code := prog_231_method_3_code, exceptionTable := #[], attributes := #[] }
def k2m2 : Method := { name := "advanced", desc := "(JJ)V", sig := { parameters := [.long, .long], returnType := none }, accessFlags := 0, code := some k2c2 }
def k2c3 : Code := { maxStack := 2, maxLocals := 1, code := prog_231_method_4_code, exceptionTable := #[], attributes := #[] }
def k2m3 : Method := { name := "deadline", desc := "()J", sig := { parameters := [], returnType := some .long }, accessFlags := 0, code := some k2c3 }
/-- com/example/epochlog/epochlog/http/ProgressDeadline -/
def k2 : Class := { plain "com/example/epochlog/epochlog/http/ProgressDeadline" (some 0) with
  accessFlags := 48
  interfaces := #[]
  cf := some (fileOf pool2 8 #[] #[{ accessFlags := 0, nameIndex := 5, descriptorIndex := 37, attributes := #[] }, { accessFlags := 0, nameIndex := 40, descriptorIndex := 41, attributes := #[] }, { accessFlags := 0, nameIndex := 42, descriptorIndex := 43, attributes := #[] }, { accessFlags := 0, nameIndex := 19, descriptorIndex := 45, attributes := #[] }] 48 2 #[] #[{ accessFlags := 18, nameIndex := 11, descriptorIndex := 12, attributes := #[] }, { accessFlags := 18, nameIndex := 15, descriptorIndex := 16, attributes := #[] }, { accessFlags := 2, nameIndex := 19, descriptorIndex := 16, attributes := #[] }, { accessFlags := 2, nameIndex := 22, descriptorIndex := 16, attributes := #[] }])
  fields := #[{ name := "pieceBytes", type := .int, accessFlags := 18, slot := 0, constantValue := 0 }, { name := "limitNanos", type := .long, accessFlags := 18, slot := 1, constantValue := 0 }, { name := "deadline", type := .long, accessFlags := 2, slot := 2, constantValue := 0 }, { name := "pieceDone", type := .long, accessFlags := 2, slot := 3, constantValue := 0 }]
  methods := #[k2m0, k2m1, k2m2, k2m3]
  instanceTypes := #[.int, .long, .long, .long]
  staticTypes := #[]
  resolved := Array.replicate 65 none
  statics := none }

def pool3 : Array CpInfo := pool [(1, u "java/lang/Cloneable"), (0, .class_ 1), (0, u "java/lang/Object"), (0, .class_ 3)] 3

/-- java/lang/Cloneable -/
def k3 : Class := { plain "java/lang/Cloneable" (some 0) with
  accessFlags := 1537
  interfaces := #[]
  cf := some (fileOf pool3 2 #[] #[] 1537 4 #[] #[])
  fields := #[]
  methods := #[]
  instanceTypes := #[]
  staticTypes := #[]
  resolved := Array.replicate 8 none
  statics := none }

def pool4 : Array CpInfo := pool [(1, u "java/io/Serializable"), (0, .class_ 1), (0, u "java/lang/Object"), (0, .class_ 3)] 3

/-- java/io/Serializable -/
def k4 : Class := { plain "java/io/Serializable" (some 0) with
  accessFlags := 1537
  interfaces := #[]
  cf := some (fileOf pool4 2 #[] #[] 1537 4 #[] #[])
  fields := #[]
  methods := #[]
  instanceTypes := #[]
  staticTypes := #[]
  resolved := Array.replicate 8 none
  statics := none }

/-- the primitive byte -/
def k5 : Class := { plain "byte" none with kind := .primitive 'B', accessFlags := 0x411 }
/-- [B -/
def k6 : Class := { plain "[B" (some 0) with kind := .array 5 .byte, interfaces := #[3, 4], accessFlags := 1041 }

/-- the primitive int -/
def k7 : Class := { plain "int" none with kind := .primitive 'I', accessFlags := 0x411 }
/-- [I -/
def k8 : Class := { plain "[I" (some 0) with kind := .array 7 .int, interfaces := #[3, 4], accessFlags := 1041 }

def heap : Heap := #[]
def classes : Array Class := #[k0, k1, k2, k3, k4, k5, k6, k7, k8]
def interned : List (Array UInt16 × Addr) := []
def slotsUsed : Nat := 0
def theMethod : MethodId := ⟨1, 1⟩
def args0 : Array Value := #[.long 1, .long 2, .long 3, .long 4, .long 5, .long 6]
def aboutOver (below : List Frame) : State where
  vm := { classes := classes, interned := interned.toArray }
  heap := heap
  slotsUsed := slotsUsed
  threads := #[{ frames := .invoking theMethod args0 :: below }]
def below0 : List Frame := [.native { method := ⟨0, 0⟩, args := #[] }]
def about1 : State := aboutOver below0
def p0 : Program := .bare "" "" ""
def e0 : Env := launch0.env 0 0 0
theorem w_frames : about1.frames = Frame.invoking theMethod args0 :: below0 := rfl
set_option maxRecDepth 65536 in
theorem w_args : argsFit about1.vm theMethod args0 = true := by decide +kernel
set_option maxRecDepth 65536 in
theorem w_heap : heapFits about1 = true := by decide +kernel
set_option maxRecDepth 65536 in
theorem w_runnable : about1.curStatus? = some .runnable := by decide +kernel
set_option maxRecDepth 65536 in
theorem w_alone : about1.alone = true := by decide +kernel
set_option maxRecDepth 65536 in
theorem w_named : about1.methodNamed? x = some theMethod := by decide +kernel
set_option maxRecDepth 65536 in
theorem w_hears : about1.hears theMethod below0 = true := by decide +kernel
set_option maxRecDepth 65536 in
theorem w_ripe : about1.ripe theMethod args0 below0 = true := by decide +kernel
theorem w_running : about1.status = .running := rfl
set_option maxRecDepth 65536 in
theorem w_room : about1.hasRoom e0.platform room_1 = true :=
  launch0.hasRoom_least _ room_1 (by decide +kernel) (by decide +kernel) (by decide +kernel) (by decide +kernel) (by decide +kernel) (by decide +kernel)
theorem allAtoms_all (ts : List Jvm.Cond) (a : Array Jvm.Value) (st : Jvm.State) : (allAtoms ts).before a st = ts.all (fun c => c.before a st) := by
  induction ts with
  | nil => rfl
  | cons c t ih =>
    show (Jvm.Cond.and c (allAtoms t)).before a st = _
    rw [Jvm.Cond.before_and, ih, List.all_cons]
def words1 : List Jvm.Cond := Jvm.Cond.code x code maxLocals ret :: tables_1
/-- a 'code' word, met by the world's own term for the bytes: nothing is compared byte by byte -/
theorem code_word {y : MethodName} {bytes : ByteArray} {mx : Nat} {rt : Option FieldType} {a : Array Value} {s : State} {m : MethodId} {meth : Method} {c : Code} (h1 : s.methodNamed? y = some m) (h2 : s.vm.method? m = some meth) (h3 : meth.code = some c) (h4 : c.code = bytes)
    (h5 : (c.maxLocals == mx && c.exceptionTable.isEmpty && decide (c.maxStack ≤ mostOperands) && decide (meth.sig.returnType = rt) && !meth.locks && decide (parseMethodDescriptor y.desc = some meth.sig)) = true) : (Jvm.Cond.code y bytes mx rt).before a s = true := by
  simp only [Bool.and_eq_true, beq_iff_eq, Bool.not_eq_true', decide_eq_true_eq] at h5
  obtain ⟨⟨⟨⟨⟨g1, g2⟩, g3⟩, g4⟩, g5⟩, g6⟩ := h5
  simp [Cond.before, Cond.holds, Cond.value, h1, h2, h3, h4, g1, g2, g3, g4, g5, g6]
def isCode : Jvm.Cond → Bool
  | .code _ _ _ _ => true
  | _ => false
theorem all_split {L : List Jvm.Cond} {P : Jvm.Cond → Bool} (h1 : L.all (fun c => isCode c || P c) = true) (h2 : ∀ c ∈ L.filter isCode, P c = true) : L.all P = true := by
  refine List.all_eq_true.mpr fun c hc => ?_
  have h := List.all_eq_true.mp h1 c hc
  rcases Bool.eq_false_or_eq_true (isCode c) with hi | hi
  · exact h2 c (List.mem_filter.mpr ⟨hc, hi⟩)
  · simpa [hi] using h
set_option maxRecDepth 65536 in
theorem w_c0 : (Jvm.Cond.code x code maxLocals ret).before args0 about1 = true := code_word (m := ⟨1, 1⟩) (meth := k1m1) (c := k1c1) (by decide +kernel) rfl rfl rfl (by decide +kernel)
set_option maxRecDepth 65536 in
theorem w_c1 : (Jvm.Cond.code ({ cls := "com/example/epochlog/epochlog/http/ProgressDeadline", name := "<init>", desc := "(IJ)V" } : Jvm.MethodName) prog_231_method_1_code (4 : Nat) (Option.none : Option Jvm.ClassFile.FieldType)).before args0 about1 = true := code_word (m := ⟨2, 0⟩) (meth := k2m0) (c := k2c0) (by decide +kernel) rfl rfl rfl (by decide +kernel)
set_option maxRecDepth 65536 in
theorem w_c2 : (Jvm.Cond.code ({ cls := "java/lang/Object", name := "<init>", desc := "()V" } : Jvm.MethodName) object_method_1_code (1 : Nat) (Option.none : Option Jvm.ClassFile.FieldType)).before args0 about1 = true := code_word (m := ⟨0, 0⟩) (meth := k0m0) (c := k0c0) (by decide +kernel) rfl rfl rfl (by decide +kernel)
set_option maxRecDepth 65536 in
theorem w_c3 : (Jvm.Cond.code ({ cls := "com/example/epochlog/epochlog/http/ProgressDeadline", name := "start", desc := "(J)V" } : Jvm.MethodName) prog_231_method_2_code (3 : Nat) (Option.none : Option Jvm.ClassFile.FieldType)).before args0 about1 = true := code_word (m := ⟨2, 1⟩) (meth := k2m1) (c := k2c1) (by decide +kernel) rfl rfl rfl (by decide +kernel)
set_option maxRecDepth 65536 in
theorem w_c4 : (Jvm.Cond.code ({ cls := "com/example/epochlog/epochlog/http/ProgressDeadline", name := "advanced", desc := "(JJ)V" } : Jvm.MethodName) prog_231_method_3_code (5 : Nat) (Option.none : Option Jvm.ClassFile.FieldType)).before args0 about1 = true := code_word (m := ⟨2, 2⟩) (meth := k2m2) (c := k2c2) (by decide +kernel) rfl rfl rfl (by decide +kernel)
set_option maxRecDepth 65536 in
theorem w_c5 : (Jvm.Cond.code ({ cls := "com/example/epochlog/epochlog/http/ProgressDeadline", name := "deadline", desc := "()J" } : Jvm.MethodName) prog_231_method_4_code (1 : Nat) (Option.some Jvm.ClassFile.FieldType.long)).before args0 about1 = true := code_word (m := ⟨2, 3⟩) (meth := k2m3) (c := k2c3) (by decide +kernel) rfl rfl rfl (by decide +kernel)
def codes1 : List Jvm.Cond := [Jvm.Cond.code x code maxLocals ret, Jvm.Cond.code ({ cls := "com/example/epochlog/epochlog/http/ProgressDeadline", name := "<init>", desc := "(IJ)V" } : Jvm.MethodName) prog_231_method_1_code (4 : Nat) (Option.none : Option Jvm.ClassFile.FieldType), Jvm.Cond.code ({ cls := "java/lang/Object", name := "<init>", desc := "()V" } : Jvm.MethodName) object_method_1_code (1 : Nat) (Option.none : Option Jvm.ClassFile.FieldType), Jvm.Cond.code ({ cls := "com/example/epochlog/epochlog/http/ProgressDeadline", name := "start", desc := "(J)V" } : Jvm.MethodName) prog_231_method_2_code (3 : Nat) (Option.none : Option Jvm.ClassFile.FieldType), Jvm.Cond.code ({ cls := "com/example/epochlog/epochlog/http/ProgressDeadline", name := "advanced", desc := "(JJ)V" } : Jvm.MethodName) prog_231_method_3_code (5 : Nat) (Option.none : Option Jvm.ClassFile.FieldType), Jvm.Cond.code ({ cls := "com/example/epochlog/epochlog/http/ProgressDeadline", name := "deadline", desc := "()J" } : Jvm.MethodName) prog_231_method_4_code (1 : Nat) (Option.some Jvm.ClassFile.FieldType.long)]
set_option maxRecDepth 65536 in
theorem codes_eq : words1.filter isCode = codes1 := rfl
theorem w_codes : ∀ c ∈ words1.filter isCode, c.before args0 about1 = true := by
  rw [codes_eq]
  intro c hc
  simp only [codes1, List.mem_cons, List.not_mem_nil, or_false] at hc
  rcases hc with rfl | rfl | rfl | rfl | rfl | rfl
  · exact w_c0
  · exact w_c1
  · exact w_c2
  · exact w_c3
  · exact w_c4
  · exact w_c5
set_option maxRecDepth 65536 in
theorem w_t1 : (words1.take 24).all (fun c => isCode c || c.before args0 about1) = true := by decide +kernel
set_option maxRecDepth 65536 in
theorem w_t2 : (words1.drop 24).all (fun c => isCode c || c.before args0 about1) = true := by decide +kernel
theorem w_tables : (allAtoms (Jvm.Cond.code x code maxLocals ret :: tables_1)).before args0 about1 = true := by
  rw [allAtoms_all]
  show words1.all (fun c => c.before args0 about1) = true
  refine all_split ?_ w_codes
  rw [← List.take_append_drop 24 words1, List.all_append, w_t1, w_t2]
  rfl
set_option maxRecDepth 65536 in
theorem w_case : (Jvm.Cond.and given_1 narrow_1).before args0 about1 = true := by decide +kernel
theorem w_applies : (headSpec (Jvm.Cond.code x code maxLocals ret :: tables_1) room_1).applies x e0.platform about1 = true :=
  (Spec.applies_iff w_frames).mpr ⟨w_running, w_runnable, w_alone, w_named, w_hears, w_ripe, w_room, w_tables⟩
theorem atStart : AtStart classFile x code maxLocals ret World_1 tables_1 room_1 Calls_1 rest_1 Pre_1 launch0 p0 e0 about1 theMethod args0 below0 :=
  ⟨lists_1, trivial, launch0.admits_env _ _ _, launch0.least_env, fairChoices_fair.cas, fairChoices_fair.clock, w_frames, w_args, w_heap, w_applies, trivial, trivial, w_case⟩
end start1
theorem witness_1 : WitnessClaimed_1 := ⟨start1.p0, start1.e0, start1.about1, start1.theMethod, start1.args0, start1.below0, start1.atStart⟩
end Jvm.Pilot.@@N@@
