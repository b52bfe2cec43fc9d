import JvmDerived
import JvmDerived.Pilot.@@N@@Statement
import JvmDerived.Pilot.@@N@@Code
set_option linter.unusedVariables false
set_option linter.unusedSimpArgs false
namespace Jvm.RoadKit
open Sem ClassFile Op Lib Jvm.Stand Jvm.Free Jvm.LawKit
section New
variable {p : Program} {l : Launch} {e : Env} {R : Room} {s : State} {m : MethodId} {args : Array Value} {below : List Frame} {meth : Method} {c : Code} {T : State} {locs : List Loc} {cells slots : Nat}
theorem retI (X : Stand p l e R s m args below meth c T locs cells slots) (hx : p.tables.exec = Jvm.exec) {pc : Nat} {Ls : Array Slot} {z : Int32} {rest : List Value} (hret : meth.sig.returnType = some .int) (hd : decode c.code pc = .ok (.ireturn, 1)) {fs : List Frame}
    (hl : ∀ (f : JFrame) (acts : List Action), f.method = m → f.locked = none → f.entered = [] → (doReturn e (T.setTop f) acts (some (.int z))).1 = T.setFrames fs) : Steps p.tables e below (T.setTop (mkF m pc Ls (.int z :: rest))) (T.setFrames fs) := by
  have hm' : T.vm.method? m = some meth := X.method'
  have hn : narrow .int (.int z) = .int z := rfl
  show Steps p.tables e below (T.setTop { method := m, pc := pc, locals := Ls, stack := _ :: rest, locked := none }) _
  jvm_step X.here [X.here.top, hx, hd, hm', hret, hn]
  first | (intro acts; rw [hl _ acts rfl rfl rfl]) | rw [hl _ _ rfl rfl rfl]
  exact Steps.refl _
end New
end Jvm.RoadKit
namespace Jvm.Pilot.@@N@@
open Jvm Jvm.ClassFile Sem Op Lib Jvm.Free Jvm.Stand Jvm.LawKit Jvm.RoadKit Bundle Jvm.Pilot.@@N@@.Jvm.D
section Own
variable {p : Program} {l : Launch} {e : Env} {R : Room} {s : State} {m : MethodId} {args : Array Value} {below : List Frame} {meth : Method} {c : Code} {T : State} {locs : List Loc} {cells slots : Nat} {Z : State} {a0 : Array Value} {h : Heap} {Q : Option Value → Heap → List Loc → Prop} {C N : Nat}
/-- from the state U the run comes to this invocation's end, which returns, and Q holds of the value, the heap and the written places -/
def zq_Go (p : Program) (e : Env) (below : List Frame) (s : State) (Q : Option Value → Heap → List Loc → Prop) (C N : Nat) (U : State) : Prop :=
  ∃ t o, Steps p.tables e below U t ∧ t.status = .running ∧ Ended t below o ∧ ∃ v L, o = .returned v ∧ Q v t.heap L ∧ FrameEnd s o t L C N
theorem zq_go {A B : State} (k : ∀ t, Steps p.tables e below A t → Steps p.tables e below B t) (h : zq_Go p e below s Q C N A) : zq_Go p e below s Q C N B := by
  obtain ⟨t, o, h1, r⟩ := h
  exact ⟨t, o, k t h1, r⟩
theorem zq_out (X : Stand p l e R s m args below meth c T locs cells slots) (hl : meth.locks = false) {v : Option Value} (hv : meth.sig.returnType = none → v = none) {A : State}
    (k : ∀ fs, (∀ (f : JFrame) (acts : List Action), f.method = m → f.locked = none → f.entered = [] → (doReturn e (T.setTop f) acts v).1 = T.setFrames fs) → Steps p.tables e below A (T.setFrames fs)) (hq : Q v T.heap locs) (hc : cells ≤ C) (hs : slots ≤ N) : zq_Go p e below s Q C N A := by
  obtain ⟨fs, hr, hrun, hended, hW, hsame⟩ := X.leave (v := v) hv hl
  exact ⟨_, _, k fs hr, hrun, hended, v, locs, rfl, hq, ⟨_, rfl⟩, hW, hsame.mono hc hs⟩
theorem zq_retN (X : Stand p l e R s m args below meth c T locs cells slots) (hx : p.tables.exec = Jvm.exec) (hl : meth.locks = false) {pc : Nat} {Ls : Array Slot} {z : Int32} {t : FieldType} {rest : List Value} (hret : meth.sig.returnType = some t) (ht : t = .boolean ∨ t = .byte ∨ t = .char ∨ t = .short)
    (hd : decode c.code pc = .ok (.ireturn, 1)) (hq : Q (some (.int (nar t z))) T.heap locs) (hc : cells ≤ C) (hs : slots ≤ N) : zq_Go p e below s Q C N (T.setTop (mkF m pc Ls (.int z :: rest))) :=
  zq_out X hl (fun h => by rw [hret] at h; cases h) (fun fs hr => retN X hx hret ht hd hr) hq hc hs
theorem zq_retI (X : Stand p l e R s m args below meth c T locs cells slots) (hx : p.tables.exec = Jvm.exec) (hl : meth.locks = false) {pc : Nat} {Ls : Array Slot} {z : Int32} {rest : List Value} (hret : meth.sig.returnType = some .int)
    (hd : decode c.code pc = .ok (.ireturn, 1)) (hq : Q (some (.int z)) T.heap locs) (hc : cells ≤ C) (hs : slots ≤ N) : zq_Go p e below s Q C N (T.setTop (mkF m pc Ls (.int z :: rest))) :=
  zq_out X hl (fun h => by rw [hret] at h; cases h) (fun fs hr => retI X hx hret hd hr) hq hc hs
theorem zq_retJ (X : Stand p l e R s m args below meth c T locs cells slots) (hx : p.tables.exec = Jvm.exec) (hl : meth.locks = false) {pc : Nat} {Ls : Array Slot} {z : Int64} (hret : meth.sig.returnType = some .long)
    (hd : decode c.code pc = .ok (.lreturn, 1)) (hq : Q (some (.long z)) T.heap locs) (hc : cells ≤ C) (hs : slots ≤ N) : zq_Go p e below s Q C N (T.setTop (mkF m pc Ls [.long z])) :=
  zq_out X hl (fun h => by rw [hret] at h; cases h) (fun fs hr => X.lreturnOut hx hret hd hr) hq hc hs
theorem zq_retA (X : Stand p l e R s m args below meth c T locs cells slots) (hx : p.tables.exec = Jvm.exec) (hl : meth.locks = false) {pc : Nat} {Ls : Array Slot} {w : Value} {t : FieldType} (hw : w.isRef = true) (hret : meth.sig.returnType = some t) (ht : t.isReference = true)
    (hd : decode c.code pc = .ok (.areturn, 1)) (hq : Q (some w) T.heap locs) (hc : cells ≤ C) (hs : slots ≤ N) : zq_Go p e below s Q C N (T.setTop (mkF m pc Ls [w])) :=
  zq_out X hl (fun h => by rw [hret] at h; cases h) (fun fs hr => X.areturnOut hx hw hret ht hd hr) hq hc hs
theorem zq_ret0 (X : Stand p l e R s m args below meth c T locs cells slots) (hx : p.tables.exec = Jvm.exec) (hl : meth.locks = false) {pc : Nat} {Ls : Array Slot} (hret : meth.sig.returnType = none)
    (hd : decode c.code pc = .ok (.return_, 1)) (hq : Q none T.heap locs) (hc : cells ≤ C) (hs : slots ≤ N) : zq_Go p e below s Q C N (T.setTop (mkF m pc Ls [])) :=
  zq_out X hl (fun _ => rfl) (fun fs hr => X.returnOut hx hret hd hr) hq hc hs
/-- a method's contract, from the heap h0, for the arguments a -/
abbrev zq_Met (l : Launch) (Z : State) (y : MethodName) (bytes : ByteArray) (maxL : Nat) (ret : Option FieldType) (ws : List Jvm.Cond) (rm : Room) (a : Array Value) (h0 : Heap) (Q : Option Value → Heap → List Loc → Prop) : Prop :=
  MetFree l y (head1 (Jvm.Cond.code y bytes maxL ret :: ws) rm) (fun a' U => a' = a ∧ Z.Warmed39 U.vm ∧ U.heap = h0) (fun _ _ _ _ _ => True) (fun _ U o U' => ∃ v L, o = .returned v ∧ Q v U'.heap L ∧ FrameEnd U o U' L rm.cells rm.slots)
theorem zq_body {y : MethodName} {bytes : ByteArray} {maxL : Nat} {ret : Option FieldType} {ws : List Jvm.Cond} {rm : Room} {a : Array Value} {h0 : Heap} (hpl : plainFor y = true)
    (body : ∀ (p : Program) (e : Env) (s : State) (m : MethodId) (below : List Frame) (meth : Method) (c : Code) (s₁ : State), p.tables.exec = Jvm.exec → Z.Warmed39 s.vm → c.code = bytes → c.maxLocals = maxL → meth.sig.returnType = ret → meth.locks = false → s.vm.findClass y.cls = some m.cls → meth.name = y.name → Stand p l e rm s m a below meth c s₁ [] 0 0 → s₁.heap = h0 → zq_Go p e below s Q rm.cells rm.slots (s₁.setTop (entryFrame m a maxL))) :
    zq_Met l Z y bytes maxL ret ws rm a h0 Q := by
  refine MetFree.of_bodySF hpl hisR ?_
  intro p e s m args below meth c s₁ Bd hml0 hP hK
  obtain ⟨rfl, hZ, hh⟩ := hP
  exact body p e s m below meth c s₁ Bd.exec hZ Bd.bytes hml0 Bd.returns Bd.notSynchronized (findClass_of_methodNamed Bd.named) (name_of_methodNamed Bd.named Bd.method).1 (Stand.of_body Bd) (by rw [← hh, Bd.state]; rfl)
/-- a callee that leaves no trace and returns r -/
def zq_pure (r : Value) (h0 : Heap) : Option Value → Heap → List Loc → Prop := fun v h L => v = some r ∧ L = [] ∧ h = h0
theorem zq_callS (X : Stand p l e R s m args below meth c T locs cells slots) (hx : p.tables.exec = Jvm.exec) (hZ : Z.Warmed39 s.vm) {own : String} {index W : Nat} {y : MethodName} {bytes : ByteArray} {maxL : Nat} {ret : Option FieldType} {rm : Room} (hown : s.vm.findClass own = some m.cls)
    (w1 : (Cond.methodLink own index y).before a0 Z = true) (w2 : (Cond.static y).before a0 Z = true) (w3 : (Cond.initialized y.cls).before a0 Z = true) (w4 : (Cond.code y bytes maxL ret).before a0 Z = true) (hy : y.cls ≠ "java/lang/invoke/MethodHandle" ∧ y.cls ≠ "java/lang/invoke/VarHandle") {argsL rest : List Value}
    (hM : zq_Met l Z y bytes maxL ret [] rm argsL.toArray h Q) (eT : T.heap = h) (hf : rm.frames + 1 ≤ R.frames) (hl : W + (maxL + 11) + rm.locals ≤ R.locals) (hcells : cells + rm.cells ≤ R.cells) (hslots : slots + rm.slots ≤ R.slots)
    {g : JFrame} (hg : g.method = m) (hsize : g.locals.size = c.maxLocals) (hlen : ∀ sig, parseMethodDescriptor y.desc = some sig → argsL.length = sig.parameters.length) (hstack : g.stack = argsL.reverse ++ rest) (hW : 2 * g.monitorRoom + (rest.map fun v => v.category).sum ≤ W) (hdg : decode c.code g.pc = .ok (.invokestatic index, 3)) :
    ∃ (v : Option Value) (T' : State) (L : List Loc), Stand p l e R s m args below meth c T' (locs ++ L) (cells + rm.cells) (slots + rm.slots) ∧ Q v T'.heap L ∧ ∀ target, Steps p.tables e below (T'.setTop { g with pc := g.pc + 3, stack := v.toList ++ rest }) target → Steps p.tables e below (T.setTop g) target := by
  obtain ⟨v, vm₁, ⟨T', L', k', n'⟩, -, X', ⟨L, hQ, e1, e2, e3⟩, st⟩ := Jvm.LawKit.callS X hx (y := y) hown (mvT hZ w1) (mvT hZ w2) (mvT hZ w3) (mvT hZ w4) hy (backOf (W := W) hM hZ w4 w3 hf hl) hg hsize hlen hstack hW hdg (fun _ _ => ⟨rfl, eT, hcells, hslots⟩)
  dsimp only [Pt.U, Pt.locs, Pt.cells, Pt.slots] at X' hQ e1 e2 e3 st
  subst e1 e2 e3
  exact ⟨v, T', L, X', hQ, st⟩
theorem zq_callP (X : Stand p l e R s m args below meth c T locs cells slots) (hx : p.tables.exec = Jvm.exec) (hZ : Z.Warmed39 s.vm) {own : String} {index W : Nat} {y : MethodName} {bytes : ByteArray} {maxL : Nat} {ret : Option FieldType} {rm : Room} {r : Value} (hown : s.vm.findClass own = some m.cls)
    (w1 : (Cond.methodLink own index y).before a0 Z = true) (w2 : (Cond.static y).before a0 Z = true) (w3 : (Cond.initialized y.cls).before a0 Z = true) (w4 : (Cond.code y bytes maxL ret).before a0 Z = true) (hy : y.cls ≠ "java/lang/invoke/MethodHandle" ∧ y.cls ≠ "java/lang/invoke/VarHandle") {argsL rest : List Value}
    (hM : zq_Met l Z y bytes maxL ret [] rm argsL.toArray h (zq_pure r h)) (eT : T.heap = h) (hf : rm.frames + 1 ≤ R.frames) (hl : W + (maxL + 11) + rm.locals ≤ R.locals) (hcells : rm.cells = 0) (hslots : rm.slots = 0) (hC : cells ≤ R.cells) (hN : slots ≤ R.slots)
    {g : JFrame} (hg : g.method = m) (hsize : g.locals.size = c.maxLocals) (hlen : ∀ sig, parseMethodDescriptor y.desc = some sig → argsL.length = sig.parameters.length) (hstack : g.stack = argsL.reverse ++ rest) (hW : 2 * g.monitorRoom + (rest.map fun v => v.category).sum ≤ W) (hdg : decode c.code g.pc = .ok (.invokestatic index, 3)) :
    ∃ T' : State, Stand p l e R s m args below meth c T' locs cells slots ∧ T'.heap = h ∧ ∀ target, Steps p.tables e below (T'.setTop { g with pc := g.pc + 3, stack := r :: rest }) target → Steps p.tables e below (T.setTop g) target := by
  obtain ⟨v, T', L, X', ⟨rfl, rfl, q⟩, st⟩ := zq_callS X hx hZ hown w1 w2 w3 w4 hy hM eT hf hl (by rw [hcells]; exact hC) (by rw [hslots]; exact hN) hg hsize hlen hstack hW hdg
  rw [hcells, hslots, List.append_nil] at X'
  exact ⟨T', X', q, st⟩
/-- what the law's own contract says: it returns 1, and wrote to new cells alone -/
def zq_one (n0 : Nat) : Option Value → Heap → List Loc → Prop := fun v _ L => v = some (.int 1) ∧ Fr n0 L
theorem zq_callC (X : Stand p l e R s m args below meth c T locs cells slots) (hx : p.tables.exec = Jvm.exec) (hZ : Z.Warmed39 s.vm) {own : String} {index W : Nat} {y : MethodName} {bytes : ByteArray} {maxL : Nat} {rm : Room} (hy1 : y.name = "<init>") (hown : s.vm.findClass own = some m.cls)
    (w1 : (Cond.methodLink own index y).before a0 Z = true) (w2 : (Cond.instanceMethod y).before a0 Z = true) (w3 : (Cond.initialized y.cls).before a0 Z = true) (w4 : (Cond.code y bytes maxL none).before a0 Z = true) (hy : y.cls ≠ "java/lang/invoke/MethodHandle" ∧ y.cls ≠ "java/lang/invoke/VarHandle") {a : Addr} {argsL rest : List Value}
    (hM : zq_Met l Z y bytes maxL none [] rm (.ref a :: argsL).toArray h Q) (eT : T.heap = h) (hf : rm.frames + 1 ≤ R.frames) (hl : W + (maxL + 11) + rm.locals ≤ R.locals) (hcells : cells + rm.cells ≤ R.cells) (hslots : slots + rm.slots ≤ R.slots)
    {g : JFrame} (hg : g.method = m) (hsize : g.locals.size = c.maxLocals) (hlen : ∀ sig, parseMethodDescriptor y.desc = some sig → argsL.length = sig.parameters.length) (hstack : g.stack = argsL.reverse ++ .ref a :: rest) (hW : 2 * g.monitorRoom + (rest.map fun v => v.category).sum ≤ W) (hdg : decode c.code g.pc = .ok (.invokespecial index, 3)) :
    ∃ (v : Option Value) (T' : State) (L : List Loc), Stand p l e R s m args below meth c T' (locs ++ L) (cells + rm.cells) (slots + rm.slots) ∧ Q v T'.heap L ∧ ∀ target, Steps p.tables e below (T'.setTop { g with pc := g.pc + 3, stack := v.toList ++ rest }) target → Steps p.tables e below (T.setTop g) target := by
  obtain ⟨v, vm₁, ⟨T', L', k', n'⟩, -, X', ⟨L, hQ, e1, e2, e3⟩, st⟩ := X.specialBack hx (y := y) hy1 hown (mvT hZ w1) (mvT hZ w2) (mvT hZ w4) hy (backOf (W := W) hM hZ w4 w3 hf hl) hg hsize (Steps.refl _) hlen hstack hW hdg (fun _ _ => ⟨rfl, eT, hcells, hslots⟩)
  dsimp only [Pt.U, Pt.locs, Pt.cells, Pt.slots] at X' hQ e1 e2 e3 st
  subst e1 e2 e3
  exact ⟨v, T', L, X', hQ, fun t k => st.trans k⟩
theorem zq_callV (X : Stand p l e R s m args below meth c T locs cells slots) (hx : p.tables.exec = Jvm.exec) (hZ : Z.Warmed39 s.vm) {own : String} {index W : Nat} {y : MethodName} {bytes : ByteArray} {maxL : Nat} {ret : Option FieldType} {rm : Room} (hown : s.vm.findClass own = some m.cls)
    (w1 : (Cond.methodLink own index y).before a0 Z = true) (w2 : (Cond.declares y).before a0 Z = true) (w5 : (Cond.selects y.cls y y).before a0 Z = true) (w6 : (Cond.instanceMethod y).before a0 Z = true) (w3 : (Cond.initialized y.cls).before a0 Z = true) (w4 : (Cond.code y bytes maxL ret).before a0 Z = true) (hy : y.cls ≠ "java/lang/invoke/MethodHandle" ∧ y.cls ≠ "java/lang/invoke/VarHandle") {a : Addr} {argsL rest : List Value}
    (hM : zq_Met l Z y bytes maxL ret [] rm (.ref a :: argsL).toArray h Q) (eT : T.heap = h) (E : Exa Z h a y.cls) (hf : rm.frames + 1 ≤ R.frames) (hl : W + (maxL + 11) + rm.locals ≤ R.locals) (hcells : cells + rm.cells ≤ R.cells) (hslots : slots + rm.slots ≤ R.slots)
    {g : JFrame} (hg : g.method = m) (hsize : g.locals.size = c.maxLocals) (hlen : ∀ sig, parseMethodDescriptor y.desc = some sig → argsL.length = sig.parameters.length) (hstack : g.stack = argsL.reverse ++ .ref a :: rest) (hW : 2 * g.monitorRoom + (rest.map fun v => v.category).sum ≤ W) (hdg : decode c.code g.pc = .ok (.invokevirtual index, 3)) :
    ∃ (v : Option Value) (T' : State) (L : List Loc), Stand p l e R s m args below meth c T' (locs ++ L) (cells + rm.cells) (slots + rm.slots) ∧ Q v T'.heap L ∧ ∀ target, Steps p.tables e below (T'.setTop { g with pc := g.pc + 3, stack := v.toList ++ rest }) target → Steps p.tables e below (T.setTop g) target := by
  obtain ⟨cq, kq, q1, q2, q3⟩ := isOf hZ eT E
  obtain ⟨v, vm₁, ⟨T', L', k', n'⟩, -, X', ⟨L, hQ, e1, e2, e3⟩, st⟩ := X.virtualBack hx (y := y) (z := y) hown (mvT hZ w1) (mvT hZ w2) (notFace_of_selects (args := #[]) (mvT hZ w5)) (mvT hZ w5) (mvT hZ w6) hy (backOf (W := W) hM hZ w4 w3 hf hl) q1 q3 hg hsize (Steps.refl _) hlen hstack hW hdg (fun _ _ => ⟨rfl, eT, hcells, hslots⟩)
  dsimp only [Pt.U, Pt.locs, Pt.cells, Pt.slots] at X' hQ e1 e2 e3 st
  subst e1 e2 e3
  exact ⟨v, T', L, X', hQ, fun t k => st.trans k⟩
theorem zq_callVP (X : Stand p l e R s m args below meth c T locs cells slots) (hx : p.tables.exec = Jvm.exec) (hZ : Z.Warmed39 s.vm) {own : String} {index W : Nat} {y : MethodName} {bytes : ByteArray} {maxL : Nat} {ret : Option FieldType} {rm : Room} {r : Value} (hown : s.vm.findClass own = some m.cls)
    (w1 : (Cond.methodLink own index y).before a0 Z = true) (w2 : (Cond.declares y).before a0 Z = true) (w5 : (Cond.selects y.cls y y).before a0 Z = true) (w6 : (Cond.instanceMethod y).before a0 Z = true) (w3 : (Cond.initialized y.cls).before a0 Z = true) (w4 : (Cond.code y bytes maxL ret).before a0 Z = true) (hy : y.cls ≠ "java/lang/invoke/MethodHandle" ∧ y.cls ≠ "java/lang/invoke/VarHandle") {a : Addr} {argsL rest : List Value}
    (hM : zq_Met l Z y bytes maxL ret [] rm (.ref a :: argsL).toArray h (zq_pure r h)) (eT : T.heap = h) (E : Exa Z h a y.cls) (hf : rm.frames + 1 ≤ R.frames) (hl : W + (maxL + 11) + rm.locals ≤ R.locals) (hcells : rm.cells = 0) (hslots : rm.slots = 0) (hC : cells ≤ R.cells) (hN : slots ≤ R.slots)
    {g : JFrame} (hg : g.method = m) (hsize : g.locals.size = c.maxLocals) (hlen : ∀ sig, parseMethodDescriptor y.desc = some sig → argsL.length = sig.parameters.length) (hstack : g.stack = argsL.reverse ++ .ref a :: rest) (hW : 2 * g.monitorRoom + (rest.map fun v => v.category).sum ≤ W) (hdg : decode c.code g.pc = .ok (.invokevirtual index, 3)) :
    ∃ T' : State, Stand p l e R s m args below meth c T' locs cells slots ∧ T'.heap = h ∧ ∀ target, Steps p.tables e below (T'.setTop { g with pc := g.pc + 3, stack := r :: rest }) target → Steps p.tables e below (T.setTop g) target := by
  obtain ⟨v, T', L, X', ⟨rfl, rfl, q⟩, st⟩ := zq_callV X hx hZ hown w1 w2 w5 w6 w3 w4 hy hM eT E hf hl (by rw [hcells]; exact hC) (by rw [hslots]; exact hN) hg hsize hlen hstack hW hdg
  rw [hcells, hslots, List.append_nil] at X'
  exact ⟨T', X', q, st⟩
/-- a constructor (or a void callee) that leaves no trace -/
def zq_void (h0 : Heap) : Option Value → Heap → List Loc → Prop := fun v h L => v = none ∧ L = [] ∧ h = h0
theorem zq_callC0 (X : Stand p l e R s m args below meth c T locs cells slots) (hx : p.tables.exec = Jvm.exec) (hZ : Z.Warmed39 s.vm) {own : String} {index W : Nat} {y : MethodName} {bytes : ByteArray} {maxL : Nat} {rm : Room} (hy1 : y.name = "<init>") (hown : s.vm.findClass own = some m.cls)
    (w1 : (Cond.methodLink own index y).before a0 Z = true) (w2 : (Cond.instanceMethod y).before a0 Z = true) (w3 : (Cond.initialized y.cls).before a0 Z = true) (w4 : (Cond.code y bytes maxL none).before a0 Z = true) (hy : y.cls ≠ "java/lang/invoke/MethodHandle" ∧ y.cls ≠ "java/lang/invoke/VarHandle") {a : Addr} {argsL rest : List Value}
    (hM : zq_Met l Z y bytes maxL none [] rm (.ref a :: argsL).toArray h (zq_void h)) (eT : T.heap = h) (hf : rm.frames + 1 ≤ R.frames) (hl : W + (maxL + 11) + rm.locals ≤ R.locals) (hcells : rm.cells = 0) (hslots : rm.slots = 0) (hC : cells ≤ R.cells) (hN : slots ≤ R.slots)
    {g : JFrame} (hg : g.method = m) (hsize : g.locals.size = c.maxLocals) (hlen : ∀ sig, parseMethodDescriptor y.desc = some sig → argsL.length = sig.parameters.length) (hstack : g.stack = argsL.reverse ++ .ref a :: rest) (hW : 2 * g.monitorRoom + (rest.map fun v => v.category).sum ≤ W) (hdg : decode c.code g.pc = .ok (.invokespecial index, 3)) :
    ∃ T' : State, Stand p l e R s m args below meth c T' locs cells slots ∧ T'.heap = h ∧ ∀ target, Steps p.tables e below (T'.setTop { g with pc := g.pc + 3, stack := rest }) target → Steps p.tables e below (T.setTop g) target := by
  obtain ⟨v, T', L, X', ⟨rfl, rfl, q⟩, st⟩ := zq_callC X hx hZ hy1 hown w1 w2 w3 w4 hy hM eT hf hl (by rw [hcells]; exact hC) (by rw [hslots]; exact hN) hg hsize hlen hstack hW hdg
  rw [hcells, hslots, List.append_nil] at X'
  exact ⟨T', X', q, st⟩
/-- an array of n places; place j holds f j -/
def zq_A (Z : State) (h : Heap) (a : Addr) (ty : FieldType) (n : Nat) (f : Nat → Value) : Prop := ∃ cl : Cell, Arr Z h a cl ty ∧ cl.slots.size = n ∧ ∀ j, j < n → cl.slots[j]? = some (f j)
variable {h' : Heap} {a b : Addr} {ty : FieldType} {n sl : Nat} {f f' : Nat → Value} {v : Value} {as : List Addr}
theorem zq_A.lt (F : zq_A Z h a ty n f) : a < h.size := by obtain ⟨cl, A, -⟩ := F; exact A.lt
theorem zq_A.ext (F : zq_A Z h a ty n f) (E : Ext h h') : zq_A Z h' a ty n f := by obtain ⟨cl, A, r⟩ := F; exact ⟨cl, A.ext E, r⟩
theorem zq_A.other (F : zq_A Z h b ty n f) (W : Wr h h' a sl v) (q : b ≠ a) : zq_A Z h' b ty n f := by obtain ⟨cl, A, r⟩ := F; exact ⟨cl, A.other W q, r⟩
theorem zq_A.keep (F : zq_A Z h a ty n f) (K : Keep h h' as) (q : a ∉ as) : zq_A Z h' a ty n f := by obtain ⟨cl, A, r⟩ := F; exact ⟨cl, ⟨K.2.1 a cl A.1 q, A.2⟩, r⟩
theorem zq_A.congr (F : zq_A Z h a ty n f) (q : ∀ j, j < n → f j = f' j) : zq_A Z h a ty n f' := by obtain ⟨cl, A, S, H⟩ := F; exact ⟨cl, A, S, fun j hj => by rw [← q j hj]; exact H j hj⟩
theorem zq_A.set (F : zq_A Z h a ty n f) (W : Wr h h' a sl v) : zq_A Z h' a ty n (fun j => if j = sl then v else f j) := by
  obtain ⟨cl, A, S, H⟩ := F
  refine ⟨_, A.same W, ?_, fun j hj => ?_⟩
  · show (cl.slots.setIfInBounds sl v).size = n
    rw [Array.size_setIfInBounds]; exact S
  · show (cl.slots.setIfInBounds sl v)[j]? = some (if j = sl then v else f j)
    by_cases q : j = sl
    · subst q
      rw [if_pos rfl, Array.getElem?_setIfInBounds_self_of_lt (by rw [S]; exact hj)]
    · rw [if_neg q, Array.getElem?_setIfInBounds_ne (Ne.symm q)]; exact H j hj
theorem zq_inb {cl : Cell} {j : Int32} {i : Nat} (S : cl.slots.size = n) (hj : j.toNatClampNeg = i) (h0 : ¬ j < 0) (hi : i < n) : ¬ (j < 0 ∨ cl.slots.size ≤ j.toNatClampNeg) := by
  rintro (q | q)
  · exact h0 q
  · omega
theorem zq_ldI (X : Stand p l e R s m args below meth c T locs cells slots) (hx : p.tables.exec = Jvm.exec) (hZ : Z.Warmed39 s.vm) (eT : T.heap = h) (F : zq_A Z h a .int n f) {j : Int32} {i : Nat} (hj : j.toNatClampNeg = i) (h0 : ¬ j < 0) (hi : i < n)
    {g : JFrame} (hg : g.method = m) {rest : List Value} (hs : g.stack = .int j :: .ref a :: rest) (hd : decode c.code g.pc = .ok (.iaload, 1)) : ∀ target, Steps p.tables e below (T.setTop { g with pc := g.pc + 1, stack := f i :: rest }) target → Steps p.tables e below (T.setTop g) target := by
  obtain ⟨cl, A, S, H⟩ := F
  exact fun t k => X.iaload hx (j := j) (v := f i) (by rw [eT]; exact A.1) (State.isArrayOf_alike hZ.alike A.2.1) A.2.2 (zq_inb S hj h0 hi) (by rw [hj]; exact H i hi) hg hs hd t k
theorem zq_ldB (X : Stand p l e R s m args below meth c T locs cells slots) (hx : p.tables.exec = Jvm.exec) (hZ : Z.Warmed39 s.vm) (eT : T.heap = h) (F : zq_A Z h a .byte n f) {j : Int32} {i : Nat} (hj : j.toNatClampNeg = i) (h0 : ¬ j < 0) (hi : i < n)
    {g : JFrame} (hg : g.method = m) {rest : List Value} (hs : g.stack = .int j :: .ref a :: rest) (hd : decode c.code g.pc = .ok (.baload, 1)) : ∀ target, Steps p.tables e below (T.setTop { g with pc := g.pc + 1, stack := f i :: rest }) target → Steps p.tables e below (T.setTop g) target := by
  obtain ⟨cl, A, S, H⟩ := F
  exact fun t k => X.baloadBytes hx (j := j) (v := f i) (by rw [eT]; exact A.1) (State.isArrayOf_alike hZ.alike A.2.1) A.2.2 (zq_inb S hj h0 hi) (by rw [hj]; exact H i hi) hg hs hd t k
theorem zq_ldC (X : Stand p l e R s m args below meth c T locs cells slots) (hx : p.tables.exec = Jvm.exec) (hZ : Z.Warmed39 s.vm) (eT : T.heap = h) (F : zq_A Z h a .char n f) {j : Int32} {i : Nat} (hj : j.toNatClampNeg = i) (h0 : ¬ j < 0) (hi : i < n)
    {g : JFrame} (hg : g.method = m) {rest : List Value} (hs : g.stack = .int j :: .ref a :: rest) (hd : decode c.code g.pc = .ok (.caload, 1)) : ∀ target, Steps p.tables e below (T.setTop { g with pc := g.pc + 1, stack := f i :: rest }) target → Steps p.tables e below (T.setTop g) target := by
  obtain ⟨cl, A, S, H⟩ := F
  exact fun t k => X.caload hx (j := j) (v := f i) (by rw [eT]; exact A.1) (State.isArrayOf_alike hZ.alike A.2.1) A.2.2 (zq_inb S hj h0 hi) (by rw [hj]; exact H i hi) hg hs hd t k
theorem zq_ldJ (X : Stand p l e R s m args below meth c T locs cells slots) (hx : p.tables.exec = Jvm.exec) (hZ : Z.Warmed39 s.vm) (eT : T.heap = h) (F : zq_A Z h a .long n f) {j : Int32} {i : Nat} (hj : j.toNatClampNeg = i) (h0 : ¬ j < 0) (hi : i < n)
    {g : JFrame} (hg : g.method = m) {rest : List Value} (hs : g.stack = .int j :: .ref a :: rest) (hd : decode c.code g.pc = .ok (.laload, 1)) : ∀ target, Steps p.tables e below (T.setTop { g with pc := g.pc + 1, stack := f i :: rest }) target → Steps p.tables e below (T.setTop g) target := by
  obtain ⟨cl, A, S, H⟩ := F
  exact fun t k => X.laload hx (j := j) (v := f i) (by rw [eT]; exact A.1) (State.isArrayOf_alike hZ.alike A.2.1) A.2.2 (zq_inb S hj h0 hi) (by rw [hj]; exact H i hi) hg hs hd t k
theorem zq_len (X : Stand p l e R s m args below meth c T locs cells slots) (hx : p.tables.exec = Jvm.exec) (hZ : Z.Warmed39 s.vm) (eT : T.heap = h) (F : zq_A Z h a ty n f)
    {g : JFrame} (hg : g.method = m) {rest : List Value} (hs : g.stack = .ref a :: rest) (hd : decode c.code g.pc = .ok (.arraylength, 1)) : ∀ target, Steps p.tables e below (T.setTop { g with pc := g.pc + 1, stack := .int n.toInt32 :: rest }) target → Steps p.tables e below (T.setTop g) target := by
  obtain ⟨cl, A, S, H⟩ := F
  subst S
  exact fun t k => X.arraylength hx (by rw [eT]; exact A.1) (State.isArrayOf_alike hZ.alike A.2.1) hg hs hd t k
theorem zq_stI (X : Stand p l e R s m args below meth c T locs cells slots) (hx : p.tables.exec = Jvm.exec) (hZ : Z.Warmed39 s.vm) (eT : T.heap = h) (F : zq_A Z h a .int n f) {j x : Int32} {i : Nat} (hj : j.toNatClampNeg = i) (h0 : ¬ j < 0) (hi : i < n)
    {g : JFrame} (hg : g.method = m) {rest : List Value} (hs : g.stack = .int x :: .int j :: .ref a :: rest) (hd : decode c.code g.pc = .ok (.iastore, 1)) :
    ∃ T' h', Stand p l e R s m args below meth c T' (locs ++ [⟨a, i⟩]) cells slots ∧ T'.heap = h' ∧ Wr h h' a i (.int x) ∧ zq_A Z h' a .int n (fun k => if k = i then .int x else f k) ∧ ∀ target, Steps p.tables e below (T'.setTop { g with pc := g.pc + 1, stack := rest }) target → Steps p.tables e below (T.setTop g) target := by
  obtain ⟨cl, A, S, H⟩ := F
  subst hj
  obtain ⟨T', h', X', e', W, st⟩ := stI X hx hZ eT A (zq_inb S rfl h0 hi) hg hs hd
  exact ⟨T', h', X', e', W, zq_A.set ⟨cl, A, S, H⟩ W, st⟩
theorem zq_stB (X : Stand p l e R s m args below meth c T locs cells slots) (hx : p.tables.exec = Jvm.exec) (hZ : Z.Warmed39 s.vm) (eT : T.heap = h) (F : zq_A Z h a .byte n f) {j x : Int32} {i : Nat} (hj : j.toNatClampNeg = i) (h0 : ¬ j < 0) (hi : i < n)
    {g : JFrame} (hg : g.method = m) {rest : List Value} (hs : g.stack = .int x :: .int j :: .ref a :: rest) (hd : decode c.code g.pc = .ok (.bastore, 1)) :
    ∃ T' h', Stand p l e R s m args below meth c T' (locs ++ [⟨a, i⟩]) cells slots ∧ T'.heap = h' ∧ Wr h h' a i (.int x.toInt8.toInt32) ∧ zq_A Z h' a .byte n (fun k => if k = i then .int x.toInt8.toInt32 else f k) ∧ ∀ target, Steps p.tables e below (T'.setTop { g with pc := g.pc + 1, stack := rest }) target → Steps p.tables e below (T.setTop g) target := by
  obtain ⟨cl, A, S, H⟩ := F
  subst hj
  obtain ⟨T', h', X', e', W, st⟩ := stB X hx hZ eT A (zq_inb S rfl h0 hi) hg hs hd
  exact ⟨T', h', X', e', W, zq_A.set ⟨cl, A, S, H⟩ W, st⟩
theorem zq_stC (X : Stand p l e R s m args below meth c T locs cells slots) (hx : p.tables.exec = Jvm.exec) (hZ : Z.Warmed39 s.vm) (eT : T.heap = h) (F : zq_A Z h a .char n f) {j x : Int32} {i : Nat} (hj : j.toNatClampNeg = i) (h0 : ¬ j < 0) (hi : i < n)
    {g : JFrame} (hg : g.method = m) {rest : List Value} (hs : g.stack = .int x :: .int j :: .ref a :: rest) (hd : decode c.code g.pc = .ok (.castore, 1)) :
    ∃ T' h', Stand p l e R s m args below meth c T' (locs ++ [⟨a, i⟩]) cells slots ∧ T'.heap = h' ∧ Wr h h' a i (.int x.toUInt32.toUInt16.toUInt32.toInt32) ∧ zq_A Z h' a .char n (fun k => if k = i then .int x.toUInt32.toUInt16.toUInt32.toInt32 else f k) ∧ ∀ target, Steps p.tables e below (T'.setTop { g with pc := g.pc + 1, stack := rest }) target → Steps p.tables e below (T.setTop g) target := by
  obtain ⟨cl, A, S, H⟩ := F
  subst hj
  obtain ⟨T', h', X', e', W, st⟩ := stC X hx hZ eT A (zq_inb S rfl h0 hi) hg hs hd
  exact ⟨T', h', X', e', W, zq_A.set ⟨cl, A, S, H⟩ W, st⟩
theorem zq_stJ (X : Stand p l e R s m args below meth c T locs cells slots) (hx : p.tables.exec = Jvm.exec) (hZ : Z.Warmed39 s.vm) (eT : T.heap = h) (F : zq_A Z h a .long n f) {j : Int32} {x : Int64} {i : Nat} (hj : j.toNatClampNeg = i) (h0 : ¬ j < 0) (hi : i < n)
    {g : JFrame} (hg : g.method = m) {rest : List Value} (hs : g.stack = .long x :: .int j :: .ref a :: rest) (hd : decode c.code g.pc = .ok (.lastore, 1)) :
    ∃ T' h', Stand p l e R s m args below meth c T' (locs ++ [⟨a, i⟩]) cells slots ∧ T'.heap = h' ∧ Wr h h' a i (.long x) ∧ zq_A Z h' a .long n (fun k => if k = i then .long x else f k) ∧ ∀ target, Steps p.tables e below (T'.setTop { g with pc := g.pc + 1, stack := rest }) target → Steps p.tables e below (T.setTop g) target := by
  obtain ⟨cl, A, S, H⟩ := F
  subst hj
  obtain ⟨T', h', X', e', W, st⟩ := stJ X hx hZ eT A (zq_inb S rfl h0 hi) hg hs hd
  exact ⟨T', h', X', e', W, zq_A.set ⟨cl, A, S, H⟩ W, st⟩
theorem zq_newA (X : Stand p l e R s m args below meth c T locs cells slots) (hx : p.tables.exec = Jvm.exec) (hZ : Z.Warmed39 s.vm) {aty : ArrayType} (w : (Cond.arrayClass (newarray.typeOf aty)).before a0 Z = true) (eT : T.heap = h) {g : JFrame} (hg : g.method = m) (hd : decode c.code g.pc = .ok (.newarray aty, 2)) {j : Int32} {rest : List Value} (hs : g.stack = .int j :: rest)
    (h0 : ¬ j < 0) (hj : j.toNatClampNeg = n) {cap : Nat} (hcap : n ≤ cap) (hb : cap * 8 ≤ 536870912) (hc : cells + 1 ≤ R.cells) (hl : slots + cap ≤ R.slots) :
    ∃ T' h' b, b = h.size ∧ Stand p l e R s m args below meth c T' locs (cells + 1) (slots + cap) ∧ T'.heap = h' ∧ Ext h h' ∧ zq_A Z h' b (newarray.typeOf aty) n (fun _ => defaultValue (newarray.typeOf aty)) ∧
      ∀ target, Steps p.tables e below (T'.setTop { g with pc := g.pc + 2, stack := .ref b :: rest }) target → Steps p.tables e below (T.setTop g) target := by
  obtain ⟨T', h', cA, X', e', E', A', st⟩ := newP X hx hZ w eT hg hd hs h0 (cap := cap) (by rw [hj]; exact hcap) hb hc hl
  refine ⟨T', h', _, rfl, X', e', E', ⟨_, A', by rw [sz_new]; exact hj, fun i hi => ?_⟩, st⟩
  show (Array.replicate j.toNatClampNeg _)[i]? = _
  rw [hj, Array.getElem?_replicate, if_pos hi]
theorem zq_newO (X : Stand p l e R s m args below meth c T locs cells slots) (hx : p.tables.exec = Jvm.exec) (hZ : Z.Warmed39 s.vm) {own C : String} {index n : Nat} (hown : s.vm.findClass own = some m.cls) (w : (Cond.classLink own index C).before a0 Z = true) (wi : (Cond.instantiable C n).before a0 Z = true) (wz : (Cond.initialized C).before a0 Z = true) (eT : T.heap = h)
    {g : JFrame} (hg : g.method = m) (hd : decode c.code g.pc = .ok (.new index, 3)) (hc : cells + 1 ≤ R.cells) (hl : slots + n ≤ R.slots) :
    ∃ T' h' b, b = h.size ∧ Stand p l e R s m args below meth c T' locs (cells + 1) (slots + n) ∧ T'.heap = h' ∧ Ext h h' ∧ Exa Z h' b C ∧ (∀ {O nm d : String} {ty : FieldType}, Laid Z a0 C O nm d → parseFieldDescriptor d = some ty → Fld Z h' b O nm d (defaultValue ty)) ∧
      ∀ target, Steps p.tables e below (T'.setTop { g with pc := g.pc + 3, stack := .ref b :: g.stack }) target → Steps p.tables e below (T.setTop g) target := by
  obtain ⟨T', h', X', e', E', A', D', -, st⟩ := newO X hx hZ hown w wi wz eT hg hd hc hl
  exact ⟨T', h', _, rfl, X', e', E', A', D', st⟩
theorem zq_ne (F : a < h.size) (q : b = h.size) : a ≠ b := fun e => absurd F (by rw [e, q]; exact Nat.lt_irrefl _)
theorem zq_ne' (F : a < h.size) (q : b = h.size) : b ≠ a := fun e => absurd F (by rw [← e, q]; exact Nat.lt_irrefl _)
end Own
def zq_u (x k : Int32) : Int32 := (x.toUInt32 >>> (k &&& 31).toUInt32).toInt32
theorem zq_bb (x : Int32) : x.toInt8.toInt32.toInt8.toInt32 = x.toInt8.toInt32 := by rw [Int8.toInt8_toInt32]
def zq_pick (a b i c : Int32) : Int32 := if (zq_u b i &&& (1 : Int32)) = (0 : Int32) then (zq_u a ((8 : Int32) * i)).toInt8.toInt32 else c.toInt8.toInt32
theorem zq_pickb (a b i c : Int32) : (zq_pick a b i c).toInt8.toInt32 = zq_pick a b i c := by
  unfold zq_pick
  split <;> exact zq_bb _
def zq_hit (b : Nat → Bool) (f t i : Int32) : Int32 := if i < f then 0 else if i < t then (if b i.toNatClampNeg = true then 1 else 0) else 0
def zq_find (b : Nat → Bool) (t : Int32) : Nat → Int32 → Int32
  | 0, _ => -1
  | k + 1, i => if i < t then (if b i.toNatClampNeg = true then i else zq_find b t k (i + (1 : Int32))) else -1
def zq_m5 (x : Int32) : Int32 := ((x &&& (2147483647 : Int32)) - ((x &&& (2147483647 : Int32)) / (5 : Int32)) * (5 : Int32))
theorem zq_low {y : Int32} {k : Nat} (h0 : 0 ≤ y.toInt) (h1 : y.toInt < k) (hk : k ≤ 2147483648) : ∃ n : Fin k, y = Int32.ofNat n := by
  have q : ¬ y < 0 := by rw [Int32.lt_iff_toInt_lt]; simp only [Int32.reduceToInt]; omega
  refine ⟨⟨y.toNatClampNeg, by simp only [Int32.toNatClampNeg]; omega⟩, (back32 q).1.symm⟩
theorem zq_m5fin (kk : Int32) : ∃ n : Fin 5, zq_m5 kk = Int32.ofNat n := by
  have e1 := c_mask kk 2147483647 31 (by decide) (by decide)
  unfold zq_m5
  generalize hm : kk &&& (2147483647 : Int32) = m at e1
  have m0 : 0 ≤ m.toInt := by rw [e1]; exact Int.emod_nonneg _ (by decide)
  have e2 := (c_idiv m 5 5 (by decide) (by decide)).1 m0
  have e3 := c_imul (m / 5) 5
  have e4 := c_isub m (m / 5 * 5)
  have r1 := rng32 m
  have r2 := rng32 (m - m / 5 * 5)
  have r3 := rng32 (m / 5 * 5)
  have s5 : (5 : Int32).toInt = 5 := by decide
  rw [s5] at e3
  exact zq_low (by omega) (by omega) (by decide)
def zq_b4 (b0 b1 b2 b3 d : Bool) (j : Nat) : Bool := [b0, b1, b2, b3].getD j d
def zq_exp (b : Nat → Bool) (f t : Int32) : Int32 :=
  let e3 : Int32 := if zq_hit b f t 3 = 0 then -1 else 3
  let e2 : Int32 := if zq_hit b f t 2 = 0 then e3 else 2
  let e1 : Int32 := if zq_hit b f t 1 = 0 then e2 else 1
  if zq_hit b f t 0 = 0 then e1 else 0
theorem zq_tab : ∀ (b0 b1 b2 b3 d : Bool) (f t : Fin 5), zq_find (zq_b4 b0 b1 b2 b3 d) (Int32.ofNat t) 4 (Int32.ofNat f) = zq_exp (zq_b4 b0 b1 b2 b3 d) (Int32.ofNat f) (Int32.ofNat t) := by decide +kernel
theorem zq_law (y0 y1 y2 y3 c f t : Int32) : zq_find (fun j => decide (([y0, y1, y2, y3] : List Int32).getD j 0 = c)) (zq_m5 t) 4 (zq_m5 f) = zq_exp (fun j => decide (([y0, y1, y2, y3] : List Int32).getD j 0 = c)) (zq_m5 f) (zq_m5 t) := by
  have hb : (fun j => decide (([y0, y1, y2, y3] : List Int32).getD j 0 = c)) = zq_b4 (decide (y0 = c)) (decide (y1 = c)) (decide (y2 = c)) (decide (y3 = c)) (decide (0 = c)) := by
    funext j
    match j with
    | 0 => rfl
    | 1 => rfl
    | 2 => rfl
    | 3 => rfl
    | j + 4 => rfl
  obtain ⟨n1, e1⟩ := zq_m5fin f
  obtain ⟨n2, e2⟩ := zq_m5fin t
  rw [hb, e1, e2]
  exact zq_tab _ _ _ _ _ _ _
theorem zq_rng5 (x : Int32) : 0 ≤ (zq_m5 x).toInt ∧ (zq_m5 x).toInt ≤ 4 := by
  obtain ⟨n, e⟩ := zq_m5fin x
  rw [e]
  clear e
  revert n
  decide +kernel
theorem zq_i0 {i : Int32} (h : 0 ≤ i.toInt) : ¬ i < 0 := by rw [Int32.lt_iff_toInt_lt, show (0 : Int32).toInt = 0 from by decide]; omega
theorem zq_i4 {i t : Int32} (h0 : 0 ≤ i.toInt) (h : i < t) (h4 : t.toInt ≤ 4) : i.toNatClampNeg < 4 := by rw [Int32.lt_iff_toInt_lt] at h; simp only [Int32.toNatClampNeg]; omega
theorem zq_inc {i t : Int32} (h0 : 0 ≤ i.toInt) (h : i < t) (h4 : t.toInt ≤ 4) : (i + 1).toInt = i.toInt + 1 := by
  rw [Int32.lt_iff_toInt_lt] at h
  have a := c_iadd i 1
  have r := rng32 (i + 1)
  rw [show (1 : Int32).toInt = 1 from by decide] at a
  omega
theorem zq_pn0 : plainName "com/example/epochlog/epochlog/http/HeadersIndexOfPinLaw" = true := by first | (simp [plainName, overriddenIn]; done) | decide +kernel
theorem zq_d1_0 : decode method_3_code 0 = .ok (.iload_n 1, 1) := by decide +kernel
theorem zq_d1_1 : decode method_3_code 1 = .ok (.iload_n 2, 1) := by decide +kernel
theorem zq_d1_2 : decode method_3_code 2 = .ok (.iushr, 1) := by decide +kernel
theorem zq_d1_3 : decode method_3_code 3 = .ok (.iconst 1, 1) := by decide +kernel
theorem zq_d1_4 : decode method_3_code 4 = .ok (.iand, 1) := by decide +kernel
theorem zq_d1_5 : decode method_3_code 5 = .ok (.ifCond .eq 6, 3) := by decide +kernel
theorem zq_d1_8 : decode method_3_code 8 = .ok (.iload_n 3, 1) := by decide +kernel
theorem zq_d1_9 : decode method_3_code 9 = .ok (.i2b, 1) := by decide +kernel
theorem zq_d1_10 : decode method_3_code 10 = .ok (.ireturn, 1) := by decide +kernel
theorem zq_d1_11 : decode method_3_code 11 = .ok (.iload_n 0, 1) := by decide +kernel
theorem zq_d1_12 : decode method_3_code 12 = .ok (.bipush 8, 2) := by decide +kernel
theorem zq_d1_14 : decode method_3_code 14 = .ok (.iload_n 2, 1) := by decide +kernel
theorem zq_d1_15 : decode method_3_code 15 = .ok (.imul, 1) := by decide +kernel
theorem zq_d1_16 : decode method_3_code 16 = .ok (.iushr, 1) := by decide +kernel
theorem zq_d1_17 : decode method_3_code 17 = .ok (.i2b, 1) := by decide +kernel
theorem zq_d1_18 : decode method_3_code 18 = .ok (.ireturn, 1) := by decide +kernel
theorem zq_ef1 (m : MethodId) (x0 : Int32) (x1 : Int32) (x2 : Int32) (x3 : Int32) : entryFrame m #[(.int x0), (.int x1), (.int x2), (.int x3)] 4 = mkF m 0 #[.val (.int x0), .val (.int x1), .val (.int x2), .val (.int x3)] [] := by first | (simp [entryFrame, mkF, argsToLocals, Value.category]; done) | rfl
set_option maxRecDepth 65536 in
set_option maxHeartbeats 40000000 in
theorem zq_rmP (l : Launch) (Z : State) (a0 : Array Value) (hw : ∀ d ∈ tables_1, d.before a0 Z = true) (ws : List Jvm.Cond) (a : Int32) (b : Int32) (i : Int32) (ch : Int32) (h0 : Heap) :
    zq_Met l Z (⟨"com/example/epochlog/epochlog/http/HeadersIndexOfPinLaw", "pick", "(IIIC)B"⟩ : MethodName) method_3_code 4 (some .byte) ws ({ frames := 0, cells := 0, slots := 0, locals := 0 } : Room) #[(.int a), (.int b), (.int i), (.int ch)] h0 (zq_pure (.int (zq_pick a b i ch)) h0) := by
  refine zq_body (plainFor_of_name zq_pn0) ?_
  intro p e s m below meth c s₁ hx hZ hby hml hret hlk hown hnm X0 e0
  refine zq_go (fun _ k => castTop (zq_ef1 m a b i ch) k) ?_
  show zq_Go p e below s _ _ _ (s₁.setTop (mkF m 0 #[.val (.int a), .val (.int b), .val (.int i), .val (.int ch)] []))
  refine zq_go (fun _ k => XS.iloadN X0.here hx rfl (hb hby zq_d1_0) rfl k) ?_
  show zq_Go p e below s _ _ _ (s₁.setTop (mkF m 1 #[.val (.int a), .val (.int b), .val (.int i), .val (.int ch)] [(.int b)]))
  refine zq_go (fun _ k => XS.iloadN X0.here hx rfl (hb hby zq_d1_1) rfl k) ?_
  show zq_Go p e below s _ _ _ (s₁.setTop (mkF m 2 #[.val (.int a), .val (.int b), .val (.int i), .val (.int ch)] [(.int i), (.int b)]))
  refine zq_go (fun _ k => XS.iushr X0.here hx rfl (hb hby zq_d1_2) rfl k) ?_
  show zq_Go p e below s _ _ _ (s₁.setTop (mkF m 3 #[.val (.int a), .val (.int b), .val (.int i), .val (.int ch)] [(.int ((b.toUInt32 >>> (i &&& 31).toUInt32).toInt32))]))
  refine zq_go (fun _ k => XS.iconst X0.here hx rfl (hb hby zq_d1_3) k) ?_
  show zq_Go p e below s _ _ _ (s₁.setTop (mkF m 4 #[.val (.int a), .val (.int b), .val (.int i), .val (.int ch)] [(.int (1 : Int32)), (.int ((b.toUInt32 >>> (i &&& 31).toUInt32).toInt32))]))
  refine zq_go (fun _ k => XS.iand X0.here hx rfl (hb hby zq_d1_4) rfl k) ?_
  show zq_Go p e below s _ _ _ (s₁.setTop (mkF m 5 #[.val (.int a), .val (.int b), .val (.int i), .val (.int ch)] [(.int (((b.toUInt32 >>> (i &&& 31).toUInt32).toInt32) &&& (1 : Int32)))]))
  by_cases hc5 : (((b.toUInt32 >>> (i &&& 31).toUInt32).toInt32) &&& (1 : Int32)) = (0 : Int32)
  ·
    refine zq_go (fun _ k => XS.ifYes X0.here hx rfl (pc0 := 5) (pc' := 11) rfl (hb hby zq_d1_5) rfl ((if0 _ _).trans (teq hc5).1) (by decide) (by decide) k) ?_
    show zq_Go p e below s _ _ _ (s₁.setTop (mkF m 11 #[.val (.int a), .val (.int b), .val (.int i), .val (.int ch)] []))
    refine zq_go (fun _ k => XS.iloadN X0.here hx rfl (hb hby zq_d1_11) rfl k) ?_
    show zq_Go p e below s _ _ _ (s₁.setTop (mkF m 12 #[.val (.int a), .val (.int b), .val (.int i), .val (.int ch)] [(.int a)]))
    refine zq_go (fun _ k => XS.bipush X0.here hx rfl (hb hby zq_d1_12) k) ?_
    show zq_Go p e below s _ _ _ (s₁.setTop (mkF m 14 #[.val (.int a), .val (.int b), .val (.int i), .val (.int ch)] [(.int (8 : Int32)), (.int a)]))
    refine zq_go (fun _ k => XS.iloadN X0.here hx rfl (hb hby zq_d1_14) rfl k) ?_
    show zq_Go p e below s _ _ _ (s₁.setTop (mkF m 15 #[.val (.int a), .val (.int b), .val (.int i), .val (.int ch)] [(.int i), (.int (8 : Int32)), (.int a)]))
    refine zq_go (fun _ k => XS.imul X0.here hx rfl (hb hby zq_d1_15) rfl k) ?_
    show zq_Go p e below s _ _ _ (s₁.setTop (mkF m 16 #[.val (.int a), .val (.int b), .val (.int i), .val (.int ch)] [(.int ((8 : Int32) * i)), (.int a)]))
    refine zq_go (fun _ k => XS.iushr X0.here hx rfl (hb hby zq_d1_16) rfl k) ?_
    show zq_Go p e below s _ _ _ (s₁.setTop (mkF m 17 #[.val (.int a), .val (.int b), .val (.int i), .val (.int ch)] [(.int ((a.toUInt32 >>> (((8 : Int32) * i) &&& 31).toUInt32).toInt32))]))
    refine zq_go (fun _ k => XS.i2b X0.here hx rfl (hb hby zq_d1_17) rfl k) ?_
    show zq_Go p e below s _ _ _ (s₁.setTop (mkF m 18 #[.val (.int a), .val (.int b), .val (.int i), .val (.int ch)] [(.int (((a.toUInt32 >>> (((8 : Int32) * i) &&& 31).toUInt32).toInt32).toInt8.toInt32))]))
    exact zq_retN X0 hx hlk (t := .byte) hret (by simp) (hb hby zq_d1_18) ⟨by show some (Value.int (_ : Int32).toInt8.toInt32) = _; unfold zq_pick; rw [if_pos (show (zq_u b i &&& (1 : Int32)) = (0 : Int32) from hc5)]; exact congrArg (fun z => some (Value.int z)) (zq_bb _), rfl, e0⟩ (by decide) (by decide)
  refine zq_go (fun _ k => XS.ifNo X0.here hx rfl (hb hby zq_d1_5) rfl ((if0 _ _).trans (feq hc5).1) k) ?_
  show zq_Go p e below s _ _ _ (s₁.setTop (mkF m 8 #[.val (.int a), .val (.int b), .val (.int i), .val (.int ch)] []))
  refine zq_go (fun _ k => XS.iloadN X0.here hx rfl (hb hby zq_d1_8) rfl k) ?_
  show zq_Go p e below s _ _ _ (s₁.setTop (mkF m 9 #[.val (.int a), .val (.int b), .val (.int i), .val (.int ch)] [(.int ch)]))
  refine zq_go (fun _ k => XS.i2b X0.here hx rfl (hb hby zq_d1_9) rfl k) ?_
  show zq_Go p e below s _ _ _ (s₁.setTop (mkF m 10 #[.val (.int a), .val (.int b), .val (.int i), .val (.int ch)] [(.int (ch.toInt8.toInt32))]))
  exact zq_retN X0 hx hlk (t := .byte) hret (by simp) (hb hby zq_d1_10) ⟨by show some (Value.int (_ : Int32).toInt8.toInt32) = _; unfold zq_pick; rw [if_neg (show ¬ (zq_u b i &&& (1 : Int32)) = (0 : Int32) from hc5)]; exact congrArg (fun z => some (Value.int z)) (zq_bb _), rfl, e0⟩ (by decide) (by decide)
theorem zq_d2_0 : decode method_4_code 0 = .ok (.iload_n 2, 1) := by decide +kernel
theorem zq_d2_1 : decode method_4_code 1 = .ok (.iload 4, 2) := by decide +kernel
theorem zq_d2_3 : decode method_4_code 3 = .ok (.if_icmp .gt 21, 3) := by decide +kernel
theorem zq_d2_6 : decode method_4_code 6 = .ok (.iload 4, 2) := by decide +kernel
theorem zq_d2_8 : decode method_4_code 8 = .ok (.iload_n 3, 1) := by decide +kernel
theorem zq_d2_9 : decode method_4_code 9 = .ok (.if_icmp .ge 15, 3) := by decide +kernel
theorem zq_d2_12 : decode method_4_code 12 = .ok (.aload_n 0, 1) := by decide +kernel
theorem zq_d2_13 : decode method_4_code 13 = .ok (.iload 4, 2) := by decide +kernel
theorem zq_d2_15 : decode method_4_code 15 = .ok (.baload, 1) := by decide +kernel
theorem zq_d2_16 : decode method_4_code 16 = .ok (.iload_n 1, 1) := by decide +kernel
theorem zq_d2_17 : decode method_4_code 17 = .ok (.if_icmp .ne 7, 3) := by decide +kernel
theorem zq_d2_20 : decode method_4_code 20 = .ok (.iconst 1, 1) := by decide +kernel
theorem zq_d2_21 : decode method_4_code 21 = .ok (.goto 4, 3) := by decide +kernel
theorem zq_d2_24 : decode method_4_code 24 = .ok (.iconst 0, 1) := by decide +kernel
theorem zq_d2_25 : decode method_4_code 25 = .ok (.ireturn, 1) := by decide +kernel
theorem zq_ef2 (m : MethodId) (x0 : Addr) (x1 : Int32) (x2 : Int32) (x3 : Int32) (x4 : Int32) : entryFrame m #[(.ref x0), (.int x1), (.int x2), (.int x3), (.int x4)] 5 = mkF m 0 #[.val (.ref x0), .val (.int x1), .val (.int x2), .val (.int x3), .val (.int x4)] [] := by first | (simp [entryFrame, mkF, argsToLocals, Value.category]; done) | rfl
set_option maxRecDepth 65536 in
set_option maxHeartbeats 40000000 in
theorem zq_rmH (l : Launch) (Z : State) (a0 : Array Value) (hw : ∀ d ∈ tables_1, d.before a0 Z = true) (ws : List Jvm.Cond) (a : Addr) (ch : Int32) (f : Int32) (t : Int32) (i : Int32) (h0 : Heap) (u : Nat → Int32) (A_a : zq_A Z h0 a .byte 4 (fun k => .int (u k))) (hi0 : ¬ i < 0) (hi4 : i.toNatClampNeg < 4) :
    zq_Met l Z (⟨"com/example/epochlog/epochlog/http/HeadersIndexOfPinLaw", "hit", "([BCIII)Z"⟩ : MethodName) method_4_code 5 (some .boolean) ws ({ frames := 0, cells := 0, slots := 0, locals := 0 } : Room) #[(.ref a), (.int ch), (.int f), (.int t), (.int i)] h0 (zq_pure (.int (zq_hit (fun j => decide (u j = ch)) f t i)) h0) := by
  refine zq_body (plainFor_of_name zq_pn0) ?_
  intro p e s m below meth c s₁ hx hZ hby hml hret hlk hown hnm X0 e0
  refine zq_go (fun _ k => castTop (zq_ef2 m a ch f t i) k) ?_
  show zq_Go p e below s _ _ _ (s₁.setTop (mkF m 0 #[.val (.ref a), .val (.int ch), .val (.int f), .val (.int t), .val (.int i)] []))
  refine zq_go (fun _ k => XS.iloadN X0.here hx rfl (hb hby zq_d2_0) rfl k) ?_
  show zq_Go p e below s _ _ _ (s₁.setTop (mkF m 1 #[.val (.ref a), .val (.int ch), .val (.int f), .val (.int t), .val (.int i)] [(.int f)]))
  refine zq_go (fun _ k => XS.iload X0.here hx rfl (hb hby zq_d2_1) rfl k) ?_
  show zq_Go p e below s _ _ _ (s₁.setTop (mkF m 3 #[.val (.ref a), .val (.int ch), .val (.int f), .val (.int t), .val (.int i)] [(.int i), (.int f)]))
  by_cases hc3 : i < f
  ·
    refine zq_go (fun _ k => XS.icmpYes X0.here hx rfl (pc0 := 3) (pc' := 24) rfl (hb hby zq_d2_3) rfl (tlt hc3).2.2.1 (by decide) (by decide) k) ?_
    show zq_Go p e below s _ _ _ (s₁.setTop (mkF m 24 #[.val (.ref a), .val (.int ch), .val (.int f), .val (.int t), .val (.int i)] []))
    refine zq_go (fun _ k => XS.iconst X0.here hx rfl (hb hby zq_d2_24) k) ?_
    show zq_Go p e below s _ _ _ (s₁.setTop (mkF m 25 #[.val (.ref a), .val (.int ch), .val (.int f), .val (.int t), .val (.int i)] [(.int (0 : Int32))]))
    exact zq_retN X0 hx hlk (t := .boolean) hret (by simp) (hb hby zq_d2_25) ⟨by unfold zq_hit; rw [if_pos hc3]; rfl, rfl, e0⟩ (by decide) (by decide)
  refine zq_go (fun _ k => XS.icmpNo X0.here hx rfl (hb hby zq_d2_3) rfl (flt hc3).2.2.1 k) ?_
  show zq_Go p e below s _ _ _ (s₁.setTop (mkF m 6 #[.val (.ref a), .val (.int ch), .val (.int f), .val (.int t), .val (.int i)] []))
  refine zq_go (fun _ k => XS.iload X0.here hx rfl (hb hby zq_d2_6) rfl k) ?_
  show zq_Go p e below s _ _ _ (s₁.setTop (mkF m 8 #[.val (.ref a), .val (.int ch), .val (.int f), .val (.int t), .val (.int i)] [(.int i)]))
  refine zq_go (fun _ k => XS.iloadN X0.here hx rfl (hb hby zq_d2_8) rfl k) ?_
  show zq_Go p e below s _ _ _ (s₁.setTop (mkF m 9 #[.val (.ref a), .val (.int ch), .val (.int f), .val (.int t), .val (.int i)] [(.int t), (.int i)]))
  by_cases hc9 : i < t
  ·
    refine zq_go (fun _ k => XS.icmpNo X0.here hx rfl (hb hby zq_d2_9) rfl (tlt hc9).2.1 k) ?_
    show zq_Go p e below s _ _ _ (s₁.setTop (mkF m 12 #[.val (.ref a), .val (.int ch), .val (.int f), .val (.int t), .val (.int i)] []))
    refine zq_go (fun _ k => XS.aloadN X0.here hx rfl (hb hby zq_d2_12) rfl rfl k) ?_
    show zq_Go p e below s _ _ _ (s₁.setTop (mkF m 13 #[.val (.ref a), .val (.int ch), .val (.int f), .val (.int t), .val (.int i)] [(.ref a)]))
    refine zq_go (fun _ k => XS.iload X0.here hx rfl (hb hby zq_d2_13) rfl k) ?_
    show zq_Go p e below s _ _ _ (s₁.setTop (mkF m 15 #[.val (.ref a), .val (.int ch), .val (.int f), .val (.int t), .val (.int i)] [(.int i), (.ref a)]))
    refine zq_go (zq_ldB X0 hx hZ e0 A_a (j := i) (i := i.toNatClampNeg) rfl hi0 hi4 (g := (mkF m 15 #[.val (.ref a), .val (.int ch), .val (.int f), .val (.int t), .val (.int i)] [(.int i), (.ref a)])) rfl rfl (hb hby zq_d2_15)) ?_
    show zq_Go p e below s _ _ _ (s₁.setTop (mkF m 16 #[.val (.ref a), .val (.int ch), .val (.int f), .val (.int t), .val (.int i)] [(.int (u i.toNatClampNeg))]))
    refine zq_go (fun _ k => XS.iloadN X0.here hx rfl (hb hby zq_d2_16) rfl k) ?_
    show zq_Go p e below s _ _ _ (s₁.setTop (mkF m 17 #[.val (.ref a), .val (.int ch), .val (.int f), .val (.int t), .val (.int i)] [(.int ch), (.int (u i.toNatClampNeg))]))
    by_cases hc17 : (u i.toNatClampNeg) = ch
    ·
      refine zq_go (fun _ k => XS.icmpNo X0.here hx rfl (hb hby zq_d2_17) rfl (teq hc17).2 k) ?_
      show zq_Go p e below s _ _ _ (s₁.setTop (mkF m 20 #[.val (.ref a), .val (.int ch), .val (.int f), .val (.int t), .val (.int i)] []))
      refine zq_go (fun _ k => XS.iconst X0.here hx rfl (hb hby zq_d2_20) k) ?_
      show zq_Go p e below s _ _ _ (s₁.setTop (mkF m 21 #[.val (.ref a), .val (.int ch), .val (.int f), .val (.int t), .val (.int i)] [(.int (1 : Int32))]))
      refine zq_go (fun _ k => XS.goto X0.here hx rfl (pc0 := 21) (pc' := 25) rfl (hb hby zq_d2_21) (by decide) (by decide) k) ?_
      show zq_Go p e below s _ _ _ (s₁.setTop (mkF m 25 #[.val (.ref a), .val (.int ch), .val (.int f), .val (.int t), .val (.int i)] [(.int (1 : Int32))]))
      exact zq_retN X0 hx hlk (t := .boolean) hret (by simp) (hb hby zq_d2_25) ⟨by unfold zq_hit; rw [if_neg hc3, if_pos hc9, if_pos (decide_eq_true hc17)]; rfl, rfl, e0⟩ (by decide) (by decide)
    refine zq_go (fun _ k => XS.icmpYes X0.here hx rfl (pc0 := 17) (pc' := 24) rfl (hb hby zq_d2_17) rfl (feq hc17).2 (by decide) (by decide) k) ?_
    show zq_Go p e below s _ _ _ (s₁.setTop (mkF m 24 #[.val (.ref a), .val (.int ch), .val (.int f), .val (.int t), .val (.int i)] []))
    refine zq_go (fun _ k => XS.iconst X0.here hx rfl (hb hby zq_d2_24) k) ?_
    show zq_Go p e below s _ _ _ (s₁.setTop (mkF m 25 #[.val (.ref a), .val (.int ch), .val (.int f), .val (.int t), .val (.int i)] [(.int (0 : Int32))]))
    exact zq_retN X0 hx hlk (t := .boolean) hret (by simp) (hb hby zq_d2_25) ⟨by unfold zq_hit; rw [if_neg hc3, if_pos hc9, if_neg (fun q => hc17 (of_decide_eq_true q))]; rfl, rfl, e0⟩ (by decide) (by decide)
  refine zq_go (fun _ k => XS.icmpYes X0.here hx rfl (pc0 := 9) (pc' := 24) rfl (hb hby zq_d2_9) rfl (flt hc9).2.1 (by decide) (by decide) k) ?_
  show zq_Go p e below s _ _ _ (s₁.setTop (mkF m 24 #[.val (.ref a), .val (.int ch), .val (.int f), .val (.int t), .val (.int i)] []))
  refine zq_go (fun _ k => XS.iconst X0.here hx rfl (hb hby zq_d2_24) k) ?_
  show zq_Go p e below s _ _ _ (s₁.setTop (mkF m 25 #[.val (.ref a), .val (.int ch), .val (.int f), .val (.int t), .val (.int i)] [(.int (0 : Int32))]))
  exact zq_retN X0 hx hlk (t := .boolean) hret (by simp) (hb hby zq_d2_25) ⟨by unfold zq_hit; rw [if_neg hc3, if_neg hc9]; rfl, rfl, e0⟩ (by decide) (by decide)
theorem zq_pn1 : plainName "com/example/epochlog/epochlog/http/Headers" = true := by first | (simp [plainName, overriddenIn]; done) | decide +kernel
theorem zq_d3_0 : decode prog_217_method_11_code 0 = .ok (.iload_n 2, 1) := by decide +kernel
theorem zq_d3_1 : decode prog_217_method_11_code 1 = .ok (.istore 4, 2) := by decide +kernel
theorem zq_d3_3 : decode prog_217_method_11_code 3 = .ok (.iload 4, 2) := by decide +kernel
theorem zq_d3_5 : decode prog_217_method_11_code 5 = .ok (.iload_n 3, 1) := by decide +kernel
theorem zq_d3_6 : decode prog_217_method_11_code 6 = .ok (.if_icmp .ge 20, 3) := by decide +kernel
theorem zq_d3_9 : decode prog_217_method_11_code 9 = .ok (.aload_n 0, 1) := by decide +kernel
theorem zq_d3_10 : decode prog_217_method_11_code 10 = .ok (.iload 4, 2) := by decide +kernel
theorem zq_d3_12 : decode prog_217_method_11_code 12 = .ok (.baload, 1) := by decide +kernel
theorem zq_d3_13 : decode prog_217_method_11_code 13 = .ok (.iload_n 1, 1) := by decide +kernel
theorem zq_d3_14 : decode prog_217_method_11_code 14 = .ok (.if_icmp .ne 6, 3) := by decide +kernel
theorem zq_d3_17 : decode prog_217_method_11_code 17 = .ok (.iload 4, 2) := by decide +kernel
theorem zq_d3_19 : decode prog_217_method_11_code 19 = .ok (.ireturn, 1) := by decide +kernel
theorem zq_d3_20 : decode prog_217_method_11_code 20 = .ok (.iinc 4 1, 3) := by decide +kernel
theorem zq_d3_23 : decode prog_217_method_11_code 23 = .ok (.goto (-20), 3) := by decide +kernel
theorem zq_d3_26 : decode prog_217_method_11_code 26 = .ok (.iconst (-1), 1) := by decide +kernel
theorem zq_d3_27 : decode prog_217_method_11_code 27 = .ok (.ireturn, 1) := by decide +kernel
theorem zq_ef3 (m : MethodId) (x0 : Addr) (x1 : Int32) (x2 : Int32) (x3 : Int32) : entryFrame m #[(.ref x0), (.int x1), (.int x2), (.int x3)] 5 = mkF m 0 #[.val (.ref x0), .val (.int x1), .val (.int x2), .val (.int x3), .unset] [] := by first | (simp [entryFrame, mkF, argsToLocals, Value.category]; done) | rfl
set_option maxRecDepth 65536 in
set_option maxHeartbeats 40000000 in
theorem zq_rmX (l : Launch) (Z : State) (a0 : Array Value) (hw : ∀ d ∈ tables_1, d.before a0 Z = true) (ws : List Jvm.Cond) (a : Addr) (ch : Int32) (f : Int32) (t : Int32) (h0 : Heap) (u : Nat → Int32) (A_a : zq_A Z h0 a .byte 4 (fun k => .int (u k))) (hf : 0 ≤ f.toInt) (ht : t.toInt ≤ 4) :
    zq_Met l Z (⟨"com/example/epochlog/epochlog/http/Headers", "indexOf", "([BCII)I"⟩ : MethodName) prog_217_method_11_code 5 (some .int) ws ({ frames := 0, cells := 0, slots := 0, locals := 0 } : Room) #[(.ref a), (.int ch), (.int f), (.int t)] h0 (zq_pure (.int (zq_find (fun j => decide (u j = ch)) t 4 f)) h0) := by
  refine zq_body (plainFor_of_name zq_pn1) ?_
  intro p e s m below meth c s₁ hx hZ hby hml hret hlk hown hnm X0 e0
  refine zq_go (fun _ k => castTop (zq_ef3 m a ch f t) k) ?_
  show zq_Go p e below s _ _ _ (s₁.setTop (mkF m 0 #[.val (.ref a), .val (.int ch), .val (.int f), .val (.int t), .unset] []))
  refine zq_go (fun _ k => XS.iloadN X0.here hx rfl (hb hby zq_d3_0) rfl k) ?_
  show zq_Go p e below s _ _ _ (s₁.setTop (mkF m 1 #[.val (.ref a), .val (.int ch), .val (.int f), .val (.int t), .unset] [(.int f)]))
  refine zq_go (fun _ k => XS.istore X0.here hx rfl (hb hby zq_d3_1) rfl (l' := #[.val (.ref a), .val (.int ch), .val (.int f), .val (.int t), .val (.int f)]) rfl k) ?_
  show zq_Go p e below s _ _ _ (s₁.setTop (mkF m 3 #[.val (.ref a), .val (.int ch), .val (.int f), .val (.int t), .val (.int f)] []))
  have loop : ∀ (k : Nat) (i : Int32), 0 ≤ i.toInt → t.toInt - i.toInt ≤ k → zq_find (fun j => decide (u j = ch)) t k i = zq_find (fun j => decide (u j = ch)) t 4 f → zq_Go p e below s (zq_pure (.int (zq_find (fun j => decide (u j = ch)) t 4 f)) h0) ({ frames := 0, cells := 0, slots := 0, locals := 0 } : Room).cells ({ frames := 0, cells := 0, slots := 0, locals := 0 } : Room).slots (s₁.setTop (mkF m 3 #[.val (.ref a), .val (.int ch), .val (.int f), .val (.int t), .val (.int i)] [])) := by
    intro k
    induction k with
    | zero =>
      intro i i0 ik ie
      have hn : ¬ i < t := by rw [Int32.lt_iff_toInt_lt]; omega
      show zq_Go p e below s _ _ _ (s₁.setTop (mkF m 3 #[.val (.ref a), .val (.int ch), .val (.int f), .val (.int t), .val (.int i)] []))
      refine zq_go (fun _ k => XS.iload X0.here hx rfl (hb hby zq_d3_3) rfl k) ?_
      show zq_Go p e below s _ _ _ (s₁.setTop (mkF m 5 #[.val (.ref a), .val (.int ch), .val (.int f), .val (.int t), .val (.int i)] [(.int i)]))
      refine zq_go (fun _ k => XS.iloadN X0.here hx rfl (hb hby zq_d3_5) rfl k) ?_
      show zq_Go p e below s _ _ _ (s₁.setTop (mkF m 6 #[.val (.ref a), .val (.int ch), .val (.int f), .val (.int t), .val (.int i)] [(.int t), (.int i)]))
      refine zq_go (fun _ k => XS.icmpYes X0.here hx rfl (pc0 := 6) (pc' := 26) rfl (hb hby zq_d3_6) rfl (flt (hn : ¬ (i < t))).2.1 (by decide) (by decide) k) ?_
      show zq_Go p e below s _ _ _ (s₁.setTop (mkF m 26 #[.val (.ref a), .val (.int ch), .val (.int f), .val (.int t), .val (.int i)] []))
      refine zq_go (fun _ k => XS.iconst X0.here hx rfl (hb hby zq_d3_26) k) ?_
      show zq_Go p e below s _ _ _ (s₁.setTop (mkF m 27 #[.val (.ref a), .val (.int ch), .val (.int f), .val (.int t), .val (.int i)] [(.int (-1 : Int32))]))
      exact zq_retI X0 hx hlk hret (hb hby zq_d3_27) ⟨congrArg (fun z => some (Value.int z)) (show (-1 : Int32) = _ from ie), rfl, e0⟩ (by decide) (by decide)
    | succ k ih =>
      intro i i0 ik ie
      show zq_Go p e below s _ _ _ (s₁.setTop (mkF m 3 #[.val (.ref a), .val (.int ch), .val (.int f), .val (.int t), .val (.int i)] []))
      refine zq_go (fun _ k => XS.iload X0.here hx rfl (hb hby zq_d3_3) rfl k) ?_
      show zq_Go p e below s _ _ _ (s₁.setTop (mkF m 5 #[.val (.ref a), .val (.int ch), .val (.int f), .val (.int t), .val (.int i)] [(.int i)]))
      refine zq_go (fun _ k => XS.iloadN X0.here hx rfl (hb hby zq_d3_5) rfl k) ?_
      show zq_Go p e below s _ _ _ (s₁.setTop (mkF m 6 #[.val (.ref a), .val (.int ch), .val (.int f), .val (.int t), .val (.int i)] [(.int t), (.int i)]))
      by_cases hc6 : i < t
      ·
        refine zq_go (fun _ k => XS.icmpNo X0.here hx rfl (hb hby zq_d3_6) rfl (tlt hc6).2.1 k) ?_
        show zq_Go p e below s _ _ _ (s₁.setTop (mkF m 9 #[.val (.ref a), .val (.int ch), .val (.int f), .val (.int t), .val (.int i)] []))
        refine zq_go (fun _ k => XS.aloadN X0.here hx rfl (hb hby zq_d3_9) rfl rfl k) ?_
        show zq_Go p e below s _ _ _ (s₁.setTop (mkF m 10 #[.val (.ref a), .val (.int ch), .val (.int f), .val (.int t), .val (.int i)] [(.ref a)]))
        refine zq_go (fun _ k => XS.iload X0.here hx rfl (hb hby zq_d3_10) rfl k) ?_
        show zq_Go p e below s _ _ _ (s₁.setTop (mkF m 12 #[.val (.ref a), .val (.int ch), .val (.int f), .val (.int t), .val (.int i)] [(.int i), (.ref a)]))
        refine zq_go (zq_ldB X0 hx hZ e0 A_a (j := i) (i := i.toNatClampNeg) rfl (zq_i0 i0) (zq_i4 i0 hc6 ht) (g := (mkF m 12 #[.val (.ref a), .val (.int ch), .val (.int f), .val (.int t), .val (.int i)] [(.int i), (.ref a)])) rfl rfl (hb hby zq_d3_12)) ?_
        show zq_Go p e below s _ _ _ (s₁.setTop (mkF m 13 #[.val (.ref a), .val (.int ch), .val (.int f), .val (.int t), .val (.int i)] [(.int (u i.toNatClampNeg))]))
        refine zq_go (fun _ k => XS.iloadN X0.here hx rfl (hb hby zq_d3_13) rfl k) ?_
        show zq_Go p e below s _ _ _ (s₁.setTop (mkF m 14 #[.val (.ref a), .val (.int ch), .val (.int f), .val (.int t), .val (.int i)] [(.int ch), (.int (u i.toNatClampNeg))]))
        by_cases hc14 : (u i.toNatClampNeg) = ch
        ·
          refine zq_go (fun _ k => XS.icmpNo X0.here hx rfl (hb hby zq_d3_14) rfl (teq hc14).2 k) ?_
          show zq_Go p e below s _ _ _ (s₁.setTop (mkF m 17 #[.val (.ref a), .val (.int ch), .val (.int f), .val (.int t), .val (.int i)] []))
          refine zq_go (fun _ k => XS.iload X0.here hx rfl (hb hby zq_d3_17) rfl k) ?_
          show zq_Go p e below s _ _ _ (s₁.setTop (mkF m 19 #[.val (.ref a), .val (.int ch), .val (.int f), .val (.int t), .val (.int i)] [(.int i)]))
          exact zq_retI X0 hx hlk hret (hb hby zq_d3_19) ⟨by rw [← ie]; show some (Value.int i) = some (Value.int (if i < t then _ else _)); rw [if_pos hc6, if_pos (decide_eq_true hc14)], rfl, e0⟩ (by decide) (by decide)
        refine zq_go (fun _ k => XS.icmpYes X0.here hx rfl (pc0 := 14) (pc' := 20) rfl (hb hby zq_d3_14) rfl (feq hc14).2 (by decide) (by decide) k) ?_
        show zq_Go p e below s _ _ _ (s₁.setTop (mkF m 20 #[.val (.ref a), .val (.int ch), .val (.int f), .val (.int t), .val (.int i)] []))
        refine zq_go (fun _ k => XS.iinc X0.here hx rfl (hb hby zq_d3_20) rfl (l' := #[.val (.ref a), .val (.int ch), .val (.int f), .val (.int t), .val (.int (i + (1 : Int32)))]) rfl k) ?_
        show zq_Go p e below s _ _ _ (s₁.setTop (mkF m 23 #[.val (.ref a), .val (.int ch), .val (.int f), .val (.int t), .val (.int (i + (1 : Int32)))] []))
        refine zq_go (fun _ k => XS.goto X0.here hx rfl (pc0 := 23) (pc' := 3) rfl (hb hby zq_d3_23) (by decide) (by decide) k) ?_
        refine ih _ (by rw [zq_inc i0 hc6 ht]; omega) (by rw [zq_inc i0 hc6 ht]; omega) ?_
        rw [← ie]
        show _ = if i < t then _ else _
        rw [if_pos hc6, if_neg (fun q => hc14 (of_decide_eq_true q))]
      refine zq_go (fun _ k => XS.icmpYes X0.here hx rfl (pc0 := 6) (pc' := 26) rfl (hb hby zq_d3_6) rfl (flt hc6).2.1 (by decide) (by decide) k) ?_
      show zq_Go p e below s _ _ _ (s₁.setTop (mkF m 26 #[.val (.ref a), .val (.int ch), .val (.int f), .val (.int t), .val (.int i)] []))
      refine zq_go (fun _ k => XS.iconst X0.here hx rfl (hb hby zq_d3_26) k) ?_
      show zq_Go p e below s _ _ _ (s₁.setTop (mkF m 27 #[.val (.ref a), .val (.int ch), .val (.int f), .val (.int t), .val (.int i)] [(.int (-1 : Int32))]))
      exact zq_retI X0 hx hlk hret (hb hby zq_d3_27) ⟨by rw [← ie]; show _ = some (Value.int (if i < t then _ else _)); rw [if_neg hc6], rfl, e0⟩ (by decide) (by decide)
  exact loop 4 f hf (by omega) rfl
theorem zq_pd2 : parseMethodDescriptor "(IIIC)B" = some ⟨[.int, .int, .int, .char], some .byte⟩ := by decide +kernel
theorem zq_pd3 : parseMethodDescriptor "([BCIII)Z" = some ⟨[(.array .byte), .char, .int, .int, .int], some .boolean⟩ := by decide +kernel
theorem zq_pd4 : parseMethodDescriptor "([BCII)I" = some ⟨[(.array .byte), .char, .int, .int], some .int⟩ := by decide +kernel
theorem zq_ef0 (m : MethodId) (x0 : Int32) (x1 : Int32) (x2 : Int32) (x3 : Int32) (x4 : Int32) : entryFrame m #[(.int x0), (.int x1), (.int x2), (.int x3), (.int x4)] maxLocals = mkF m 0 #[.val (.int x0), .val (.int x1), .val (.int x2), .val (.int x3), .val (.int x4), .unset, .unset, .unset, .unset, .unset] [] := by first | (simp [entryFrame, mkF, argsToLocals, Value.category, maxLocals]; done) | rfl
set_option maxRecDepth 65536 in
set_option maxHeartbeats 40000000 in
theorem zq_rm0 (l : Launch) (Z : State) (a0 : Array Value) (hw : ∀ d ∈ tables_1, d.before a0 Z = true) (ws : List Jvm.Cond) (x0 : Int32) (x1 : Int32) (x2 : Int32) (x3 : Int32) (x4 : Int32) (h0 : Heap) :
    zq_Met l Z x code maxLocals ret ws room_1 #[(.int x0), (.int x1), (.int x2), (.int x3), (.int x4)] h0 (zq_one h0.size) := by
  refine zq_body (plainFor_of_name zq_pn0) ?_
  intro p e s m below meth c s₁ hx hZ hby hml hret hlk hown hnm X0 e0
  refine zq_go (fun _ k => castTop (zq_ef0 m x0 x1 x2 x3 x4) k) ?_
  have NF := Fr.nil h0.size
  have ZS : h0.size ≤ h0.size := Nat.le_refl _
  show zq_Go p e below s _ _ _ (s₁.setTop (mkF m 0 #[.val (.int x0), .val (.int x1), .val (.int x2), .val (.int x3), .val (.int x4), .unset, .unset, .unset, .unset, .unset] []))
  refine zq_go (fun _ k => XS.iloadN X0.here hx rfl (hb hby at_0) rfl k) ?_
  show zq_Go p e below s _ _ _ (s₁.setTop (mkF m 1 #[.val (.int x0), .val (.int x1), .val (.int x2), .val (.int x3), .val (.int x4), .unset, .unset, .unset, .unset, .unset] [(.int x2)]))
  refine zq_go (fun _ k => XS.bipush X0.here hx rfl (hb hby at_1) k) ?_
  show zq_Go p e below s _ _ _ (s₁.setTop (mkF m 3 #[.val (.int x0), .val (.int x1), .val (.int x2), .val (.int x3), .val (.int x4), .unset, .unset, .unset, .unset, .unset] [(.int (127 : Int32)), (.int x2)]))
  refine zq_go (fun _ k => XS.iand X0.here hx rfl (hb hby at_3) rfl k) ?_
  show zq_Go p e below s _ _ _ (s₁.setTop (mkF m 4 #[.val (.int x0), .val (.int x1), .val (.int x2), .val (.int x3), .val (.int x4), .unset, .unset, .unset, .unset, .unset] [(.int (x2 &&& (127 : Int32)))]))
  refine zq_go (fun _ k => XS.i2c X0.here hx rfl (hb hby at_4) rfl k) ?_
  show zq_Go p e below s _ _ _ (s₁.setTop (mkF m 5 #[.val (.int x0), .val (.int x1), .val (.int x2), .val (.int x3), .val (.int x4), .unset, .unset, .unset, .unset, .unset] [(.int ((x2 &&& (127 : Int32)).toUInt32.toUInt16.toUInt32.toInt32))]))
  obtain ⟨cc, hcc⟩ : ∃ z : Int32, z = ((x2 &&& (127 : Int32)).toUInt32.toUInt16.toUInt32.toInt32) := ⟨_, rfl⟩
  rw [← hcc]
  show zq_Go p e below s _ _ _ (s₁.setTop (mkF m 5 #[.val (.int x0), .val (.int x1), .val (.int x2), .val (.int x3), .val (.int x4), .unset, .unset, .unset, .unset, .unset] [(.int cc)]))
  refine zq_go (fun _ k => XS.istore X0.here hx rfl (hb hby at_5) rfl (l' := #[.val (.int x0), .val (.int x1), .val (.int x2), .val (.int x3), .val (.int x4), .val (.int cc), .unset, .unset, .unset, .unset]) rfl k) ?_
  show zq_Go p e below s _ _ _ (s₁.setTop (mkF m 7 #[.val (.int x0), .val (.int x1), .val (.int x2), .val (.int x3), .val (.int x4), .val (.int cc), .unset, .unset, .unset, .unset] []))
  refine zq_go (fun _ k => XS.iconst X0.here hx rfl (hb hby at_7) k) ?_
  show zq_Go p e below s _ _ _ (s₁.setTop (mkF m 8 #[.val (.int x0), .val (.int x1), .val (.int x2), .val (.int x3), .val (.int x4), .val (.int cc), .unset, .unset, .unset, .unset] [(.int (4 : Int32))]))
  obtain ⟨T1, h1, b1, gb1, X1, e1, E1, A_b1, st1⟩ := zq_newA (aty := .byte) X0 hx hZ (hw _ (List.mem_of_getElem? (i := 0) rfl)) e0 (g := (mkF m 8 #[.val (.int x0), .val (.int x1), .val (.int x2), .val (.int x3), .val (.int x4), .val (.int cc), .unset, .unset, .unset, .unset] [(.int (4 : Int32))])) rfl (hb hby at_8) rfl (by decide) (n := 4) (by decide) (cap := 4) (by decide) (by decide) (by decide) (by decide)
  have g_b1 : h0.size ≤ b1 := by rw [gb1]; exact ZS
  have ZS := Nat.le_trans ZS E1.1
  have X1 : Stand p l e room_1 s m #[(.int x0), (.int x1), (.int x2), (.int x3), (.int x4)] below meth c T1 [] 1 4 := X1
  have A_b1 : zq_A Z h1 b1 .byte 4 (fun k => .int (([(0 : Int32), (0 : Int32), (0 : Int32), (0 : Int32)] : List Int32).getD k 0)) := A_b1.congr (fun j hj => by match j, hj with | 0, _ => rfl | 1, _ => rfl | 2, _ => rfl | 3, _ => rfl | (j + 4), hj => exact absurd hj (by omega))
  refine zq_go st1 ?_
  show zq_Go p e below s _ _ _ (T1.setTop (mkF m 10 #[.val (.int x0), .val (.int x1), .val (.int x2), .val (.int x3), .val (.int x4), .val (.int cc), .unset, .unset, .unset, .unset] [(.ref b1)]))
  refine zq_go (fun _ k => XS.astore X1.here hx rfl (hb hby at_10) rfl rfl (l' := #[.val (.int x0), .val (.int x1), .val (.int x2), .val (.int x3), .val (.int x4), .val (.int cc), .val (.ref b1), .unset, .unset, .unset]) rfl k) ?_
  show zq_Go p e below s _ _ _ (T1.setTop (mkF m 12 #[.val (.int x0), .val (.int x1), .val (.int x2), .val (.int x3), .val (.int x4), .val (.int cc), .val (.ref b1), .unset, .unset, .unset] []))
  refine zq_go (fun _ k => XS.aload X1.here hx rfl (hb hby at_12) rfl rfl k) ?_
  show zq_Go p e below s _ _ _ (T1.setTop (mkF m 14 #[.val (.int x0), .val (.int x1), .val (.int x2), .val (.int x3), .val (.int x4), .val (.int cc), .val (.ref b1), .unset, .unset, .unset] [(.ref b1)]))
  refine zq_go (fun _ k => XS.iconst X1.here hx rfl (hb hby at_14) k) ?_
  show zq_Go p e below s _ _ _ (T1.setTop (mkF m 15 #[.val (.int x0), .val (.int x1), .val (.int x2), .val (.int x3), .val (.int x4), .val (.int cc), .val (.ref b1), .unset, .unset, .unset] [(.int (0 : Int32)), (.ref b1)]))
  refine zq_go (fun _ k => XS.iloadN X1.here hx rfl (hb hby at_15) rfl k) ?_
  show zq_Go p e below s _ _ _ (T1.setTop (mkF m 16 #[.val (.int x0), .val (.int x1), .val (.int x2), .val (.int x3), .val (.int x4), .val (.int cc), .val (.ref b1), .unset, .unset, .unset] [(.int x0), (.int (0 : Int32)), (.ref b1)]))
  refine zq_go (fun _ k => XS.iloadN X1.here hx rfl (hb hby at_16) rfl k) ?_
  show zq_Go p e below s _ _ _ (T1.setTop (mkF m 17 #[.val (.int x0), .val (.int x1), .val (.int x2), .val (.int x3), .val (.int x4), .val (.int cc), .val (.ref b1), .unset, .unset, .unset] [(.int x1), (.int x0), (.int (0 : Int32)), (.ref b1)]))
  refine zq_go (fun _ k => XS.iconst X1.here hx rfl (hb hby at_17) k) ?_
  show zq_Go p e below s _ _ _ (T1.setTop (mkF m 18 #[.val (.int x0), .val (.int x1), .val (.int x2), .val (.int x3), .val (.int x4), .val (.int cc), .val (.ref b1), .unset, .unset, .unset] [(.int (0 : Int32)), (.int x1), (.int x0), (.int (0 : Int32)), (.ref b1)]))
  refine zq_go (fun _ k => XS.iload X1.here hx rfl (hb hby at_18) rfl k) ?_
  show zq_Go p e below s _ _ _ (T1.setTop (mkF m 20 #[.val (.int x0), .val (.int x1), .val (.int x2), .val (.int x3), .val (.int x4), .val (.int cc), .val (.ref b1), .unset, .unset, .unset] [(.int cc), (.int (0 : Int32)), (.int x1), (.int x0), (.int (0 : Int32)), (.ref b1)]))
  obtain ⟨T2, X2, e2, st2⟩ := zq_callP (W := 2) X1 hx hZ hown (hw _ (List.mem_of_getElem? (i := 1) rfl)) (hw _ (List.mem_of_getElem? (i := 2) rfl)) (hw _ (List.mem_of_getElem? (i := 3) rfl)) (hw _ (List.mem_of_getElem? (i := 4) rfl)) (by decide) (zq_rmP l Z a0 hw [] x0 x1 (0 : Int32) cc h1) e1 (by decide) (by decide) rfl rfl (by decide) (by decide) (g := (mkF m 20 #[.val (.int x0), .val (.int x1), .val (.int x2), .val (.int x3), .val (.int x4), .val (.int cc), .val (.ref b1), .unset, .unset, .unset] [(.int cc), (.int (0 : Int32)), (.int x1), (.int x0), (.int (0 : Int32)), (.ref b1)])) rfl (by rw [hml]; rfl) (argsL := [(.int x0), (.int x1), (.int (0 : Int32)), (.int cc)]) (rest := [(.int (0 : Int32)), (.ref b1)]) (lenOf zq_pd2 rfl) rfl (by show 2 * 0 + _ ≤ _; exact Nat.le_of_eq rfl) (hb hby at_20)
  refine zq_go st2 ?_
  show zq_Go p e below s _ _ _ (T2.setTop (mkF m 23 #[.val (.int x0), .val (.int x1), .val (.int x2), .val (.int x3), .val (.int x4), .val (.int cc), .val (.ref b1), .unset, .unset, .unset] [(.int (zq_pick x0 x1 (0 : Int32) cc)), (.int (0 : Int32)), (.ref b1)]))
  obtain ⟨T3, h3, X3, e3, W3, A_b1, st3⟩ := zq_stB X2 hx hZ e2 A_b1 (j := (0 : Int32)) (i := 0) (by decide) (by decide) (by decide) (g := (mkF m 23 #[.val (.int x0), .val (.int x1), .val (.int x2), .val (.int x3), .val (.int x4), .val (.int cc), .val (.ref b1), .unset, .unset, .unset] [(.int (zq_pick x0 x1 (0 : Int32) cc)), (.int (0 : Int32)), (.ref b1)])) rfl rfl (hb hby at_23)
  refine zq_go st3 ?_
  have ZS := Nat.le_trans ZS (Keep.of_wr W3).1
  have A_b1 : zq_A Z h3 b1 .byte 4 (fun k => .int (([(zq_pick x0 x1 (0 : Int32) cc).toInt8.toInt32, (0 : Int32), (0 : Int32), (0 : Int32)] : List Int32).getD k 0)) := A_b1.congr (fun j hj => by match j, hj with | 0, _ => rfl | 1, _ => rfl | 2, _ => rfl | 3, _ => rfl | (j + 4), hj => exact absurd hj (by omega))
  obtain ⟨L3, X3, NF⟩ : ∃ L : List Loc, Stand p l e room_1 s m #[(.int x0), (.int x1), (.int x2), (.int x3), (.int x4)] below meth c T3 L 1 4 ∧ Fr h0.size L := ⟨_, X3, Fr.snoc X3 NF g_b1⟩
  rw [zq_pickb] at A_b1
  show zq_Go p e below s _ _ _ (T3.setTop (mkF m 24 #[.val (.int x0), .val (.int x1), .val (.int x2), .val (.int x3), .val (.int x4), .val (.int cc), .val (.ref b1), .unset, .unset, .unset] []))
  refine zq_go (fun _ k => XS.aload X3.here hx rfl (hb hby at_24) rfl rfl k) ?_
  show zq_Go p e below s _ _ _ (T3.setTop (mkF m 26 #[.val (.int x0), .val (.int x1), .val (.int x2), .val (.int x3), .val (.int x4), .val (.int cc), .val (.ref b1), .unset, .unset, .unset] [(.ref b1)]))
  refine zq_go (fun _ k => XS.iconst X3.here hx rfl (hb hby at_26) k) ?_
  show zq_Go p e below s _ _ _ (T3.setTop (mkF m 27 #[.val (.int x0), .val (.int x1), .val (.int x2), .val (.int x3), .val (.int x4), .val (.int cc), .val (.ref b1), .unset, .unset, .unset] [(.int (1 : Int32)), (.ref b1)]))
  refine zq_go (fun _ k => XS.iloadN X3.here hx rfl (hb hby at_27) rfl k) ?_
  show zq_Go p e below s _ _ _ (T3.setTop (mkF m 28 #[.val (.int x0), .val (.int x1), .val (.int x2), .val (.int x3), .val (.int x4), .val (.int cc), .val (.ref b1), .unset, .unset, .unset] [(.int x0), (.int (1 : Int32)), (.ref b1)]))
  refine zq_go (fun _ k => XS.iloadN X3.here hx rfl (hb hby at_28) rfl k) ?_
  show zq_Go p e below s _ _ _ (T3.setTop (mkF m 29 #[.val (.int x0), .val (.int x1), .val (.int x2), .val (.int x3), .val (.int x4), .val (.int cc), .val (.ref b1), .unset, .unset, .unset] [(.int x1), (.int x0), (.int (1 : Int32)), (.ref b1)]))
  refine zq_go (fun _ k => XS.iconst X3.here hx rfl (hb hby at_29) k) ?_
  show zq_Go p e below s _ _ _ (T3.setTop (mkF m 30 #[.val (.int x0), .val (.int x1), .val (.int x2), .val (.int x3), .val (.int x4), .val (.int cc), .val (.ref b1), .unset, .unset, .unset] [(.int (1 : Int32)), (.int x1), (.int x0), (.int (1 : Int32)), (.ref b1)]))
  refine zq_go (fun _ k => XS.iload X3.here hx rfl (hb hby at_30) rfl k) ?_
  show zq_Go p e below s _ _ _ (T3.setTop (mkF m 32 #[.val (.int x0), .val (.int x1), .val (.int x2), .val (.int x3), .val (.int x4), .val (.int cc), .val (.ref b1), .unset, .unset, .unset] [(.int cc), (.int (1 : Int32)), (.int x1), (.int x0), (.int (1 : Int32)), (.ref b1)]))
  obtain ⟨T4, X4, e4, st4⟩ := zq_callP (W := 2) X3 hx hZ hown (hw _ (List.mem_of_getElem? (i := 1) rfl)) (hw _ (List.mem_of_getElem? (i := 2) rfl)) (hw _ (List.mem_of_getElem? (i := 3) rfl)) (hw _ (List.mem_of_getElem? (i := 4) rfl)) (by decide) (zq_rmP l Z a0 hw [] x0 x1 (1 : Int32) cc h3) e3 (by decide) (by decide) rfl rfl (by decide) (by decide) (g := (mkF m 32 #[.val (.int x0), .val (.int x1), .val (.int x2), .val (.int x3), .val (.int x4), .val (.int cc), .val (.ref b1), .unset, .unset, .unset] [(.int cc), (.int (1 : Int32)), (.int x1), (.int x0), (.int (1 : Int32)), (.ref b1)])) rfl (by rw [hml]; rfl) (argsL := [(.int x0), (.int x1), (.int (1 : Int32)), (.int cc)]) (rest := [(.int (1 : Int32)), (.ref b1)]) (lenOf zq_pd2 rfl) rfl (by show 2 * 0 + _ ≤ _; exact Nat.le_of_eq rfl) (hb hby at_32)
  refine zq_go st4 ?_
  show zq_Go p e below s _ _ _ (T4.setTop (mkF m 35 #[.val (.int x0), .val (.int x1), .val (.int x2), .val (.int x3), .val (.int x4), .val (.int cc), .val (.ref b1), .unset, .unset, .unset] [(.int (zq_pick x0 x1 (1 : Int32) cc)), (.int (1 : Int32)), (.ref b1)]))
  obtain ⟨T5, h5, X5, e5, W5, A_b1, st5⟩ := zq_stB X4 hx hZ e4 A_b1 (j := (1 : Int32)) (i := 1) (by decide) (by decide) (by decide) (g := (mkF m 35 #[.val (.int x0), .val (.int x1), .val (.int x2), .val (.int x3), .val (.int x4), .val (.int cc), .val (.ref b1), .unset, .unset, .unset] [(.int (zq_pick x0 x1 (1 : Int32) cc)), (.int (1 : Int32)), (.ref b1)])) rfl rfl (hb hby at_35)
  refine zq_go st5 ?_
  have ZS := Nat.le_trans ZS (Keep.of_wr W5).1
  have A_b1 : zq_A Z h5 b1 .byte 4 (fun k => .int (([(zq_pick x0 x1 (0 : Int32) cc), (zq_pick x0 x1 (1 : Int32) cc).toInt8.toInt32, (0 : Int32), (0 : Int32)] : List Int32).getD k 0)) := A_b1.congr (fun j hj => by match j, hj with | 0, _ => rfl | 1, _ => rfl | 2, _ => rfl | 3, _ => rfl | (j + 4), hj => exact absurd hj (by omega))
  obtain ⟨L5, X5, NF⟩ : ∃ L : List Loc, Stand p l e room_1 s m #[(.int x0), (.int x1), (.int x2), (.int x3), (.int x4)] below meth c T5 L 1 4 ∧ Fr h0.size L := ⟨_, X5, Fr.snoc X5 NF g_b1⟩
  rw [zq_pickb] at A_b1
  show zq_Go p e below s _ _ _ (T5.setTop (mkF m 36 #[.val (.int x0), .val (.int x1), .val (.int x2), .val (.int x3), .val (.int x4), .val (.int cc), .val (.ref b1), .unset, .unset, .unset] []))
  refine zq_go (fun _ k => XS.aload X5.here hx rfl (hb hby at_36) rfl rfl k) ?_
  show zq_Go p e below s _ _ _ (T5.setTop (mkF m 38 #[.val (.int x0), .val (.int x1), .val (.int x2), .val (.int x3), .val (.int x4), .val (.int cc), .val (.ref b1), .unset, .unset, .unset] [(.ref b1)]))
  refine zq_go (fun _ k => XS.iconst X5.here hx rfl (hb hby at_38) k) ?_
  show zq_Go p e below s _ _ _ (T5.setTop (mkF m 39 #[.val (.int x0), .val (.int x1), .val (.int x2), .val (.int x3), .val (.int x4), .val (.int cc), .val (.ref b1), .unset, .unset, .unset] [(.int (2 : Int32)), (.ref b1)]))
  refine zq_go (fun _ k => XS.iloadN X5.here hx rfl (hb hby at_39) rfl k) ?_
  show zq_Go p e below s _ _ _ (T5.setTop (mkF m 40 #[.val (.int x0), .val (.int x1), .val (.int x2), .val (.int x3), .val (.int x4), .val (.int cc), .val (.ref b1), .unset, .unset, .unset] [(.int x0), (.int (2 : Int32)), (.ref b1)]))
  refine zq_go (fun _ k => XS.iloadN X5.here hx rfl (hb hby at_40) rfl k) ?_
  show zq_Go p e below s _ _ _ (T5.setTop (mkF m 41 #[.val (.int x0), .val (.int x1), .val (.int x2), .val (.int x3), .val (.int x4), .val (.int cc), .val (.ref b1), .unset, .unset, .unset] [(.int x1), (.int x0), (.int (2 : Int32)), (.ref b1)]))
  refine zq_go (fun _ k => XS.iconst X5.here hx rfl (hb hby at_41) k) ?_
  show zq_Go p e below s _ _ _ (T5.setTop (mkF m 42 #[.val (.int x0), .val (.int x1), .val (.int x2), .val (.int x3), .val (.int x4), .val (.int cc), .val (.ref b1), .unset, .unset, .unset] [(.int (2 : Int32)), (.int x1), (.int x0), (.int (2 : Int32)), (.ref b1)]))
  refine zq_go (fun _ k => XS.iload X5.here hx rfl (hb hby at_42) rfl k) ?_
  show zq_Go p e below s _ _ _ (T5.setTop (mkF m 44 #[.val (.int x0), .val (.int x1), .val (.int x2), .val (.int x3), .val (.int x4), .val (.int cc), .val (.ref b1), .unset, .unset, .unset] [(.int cc), (.int (2 : Int32)), (.int x1), (.int x0), (.int (2 : Int32)), (.ref b1)]))
  obtain ⟨T6, X6, e6, st6⟩ := zq_callP (W := 2) X5 hx hZ hown (hw _ (List.mem_of_getElem? (i := 1) rfl)) (hw _ (List.mem_of_getElem? (i := 2) rfl)) (hw _ (List.mem_of_getElem? (i := 3) rfl)) (hw _ (List.mem_of_getElem? (i := 4) rfl)) (by decide) (zq_rmP l Z a0 hw [] x0 x1 (2 : Int32) cc h5) e5 (by decide) (by decide) rfl rfl (by decide) (by decide) (g := (mkF m 44 #[.val (.int x0), .val (.int x1), .val (.int x2), .val (.int x3), .val (.int x4), .val (.int cc), .val (.ref b1), .unset, .unset, .unset] [(.int cc), (.int (2 : Int32)), (.int x1), (.int x0), (.int (2 : Int32)), (.ref b1)])) rfl (by rw [hml]; rfl) (argsL := [(.int x0), (.int x1), (.int (2 : Int32)), (.int cc)]) (rest := [(.int (2 : Int32)), (.ref b1)]) (lenOf zq_pd2 rfl) rfl (by show 2 * 0 + _ ≤ _; exact Nat.le_of_eq rfl) (hb hby at_44)
  refine zq_go st6 ?_
  show zq_Go p e below s _ _ _ (T6.setTop (mkF m 47 #[.val (.int x0), .val (.int x1), .val (.int x2), .val (.int x3), .val (.int x4), .val (.int cc), .val (.ref b1), .unset, .unset, .unset] [(.int (zq_pick x0 x1 (2 : Int32) cc)), (.int (2 : Int32)), (.ref b1)]))
  obtain ⟨T7, h7, X7, e7, W7, A_b1, st7⟩ := zq_stB X6 hx hZ e6 A_b1 (j := (2 : Int32)) (i := 2) (by decide) (by decide) (by decide) (g := (mkF m 47 #[.val (.int x0), .val (.int x1), .val (.int x2), .val (.int x3), .val (.int x4), .val (.int cc), .val (.ref b1), .unset, .unset, .unset] [(.int (zq_pick x0 x1 (2 : Int32) cc)), (.int (2 : Int32)), (.ref b1)])) rfl rfl (hb hby at_47)
  refine zq_go st7 ?_
  have ZS := Nat.le_trans ZS (Keep.of_wr W7).1
  have A_b1 : zq_A Z h7 b1 .byte 4 (fun k => .int (([(zq_pick x0 x1 (0 : Int32) cc), (zq_pick x0 x1 (1 : Int32) cc), (zq_pick x0 x1 (2 : Int32) cc).toInt8.toInt32, (0 : Int32)] : List Int32).getD k 0)) := A_b1.congr (fun j hj => by match j, hj with | 0, _ => rfl | 1, _ => rfl | 2, _ => rfl | 3, _ => rfl | (j + 4), hj => exact absurd hj (by omega))
  obtain ⟨L7, X7, NF⟩ : ∃ L : List Loc, Stand p l e room_1 s m #[(.int x0), (.int x1), (.int x2), (.int x3), (.int x4)] below meth c T7 L 1 4 ∧ Fr h0.size L := ⟨_, X7, Fr.snoc X7 NF g_b1⟩
  rw [zq_pickb] at A_b1
  show zq_Go p e below s _ _ _ (T7.setTop (mkF m 48 #[.val (.int x0), .val (.int x1), .val (.int x2), .val (.int x3), .val (.int x4), .val (.int cc), .val (.ref b1), .unset, .unset, .unset] []))
  refine zq_go (fun _ k => XS.aload X7.here hx rfl (hb hby at_48) rfl rfl k) ?_
  show zq_Go p e below s _ _ _ (T7.setTop (mkF m 50 #[.val (.int x0), .val (.int x1), .val (.int x2), .val (.int x3), .val (.int x4), .val (.int cc), .val (.ref b1), .unset, .unset, .unset] [(.ref b1)]))
  refine zq_go (fun _ k => XS.iconst X7.here hx rfl (hb hby at_50) k) ?_
  show zq_Go p e below s _ _ _ (T7.setTop (mkF m 51 #[.val (.int x0), .val (.int x1), .val (.int x2), .val (.int x3), .val (.int x4), .val (.int cc), .val (.ref b1), .unset, .unset, .unset] [(.int (3 : Int32)), (.ref b1)]))
  refine zq_go (fun _ k => XS.iloadN X7.here hx rfl (hb hby at_51) rfl k) ?_
  show zq_Go p e below s _ _ _ (T7.setTop (mkF m 52 #[.val (.int x0), .val (.int x1), .val (.int x2), .val (.int x3), .val (.int x4), .val (.int cc), .val (.ref b1), .unset, .unset, .unset] [(.int x0), (.int (3 : Int32)), (.ref b1)]))
  refine zq_go (fun _ k => XS.iloadN X7.here hx rfl (hb hby at_52) rfl k) ?_
  show zq_Go p e below s _ _ _ (T7.setTop (mkF m 53 #[.val (.int x0), .val (.int x1), .val (.int x2), .val (.int x3), .val (.int x4), .val (.int cc), .val (.ref b1), .unset, .unset, .unset] [(.int x1), (.int x0), (.int (3 : Int32)), (.ref b1)]))
  refine zq_go (fun _ k => XS.iconst X7.here hx rfl (hb hby at_53) k) ?_
  show zq_Go p e below s _ _ _ (T7.setTop (mkF m 54 #[.val (.int x0), .val (.int x1), .val (.int x2), .val (.int x3), .val (.int x4), .val (.int cc), .val (.ref b1), .unset, .unset, .unset] [(.int (3 : Int32)), (.int x1), (.int x0), (.int (3 : Int32)), (.ref b1)]))
  refine zq_go (fun _ k => XS.iload X7.here hx rfl (hb hby at_54) rfl k) ?_
  show zq_Go p e below s _ _ _ (T7.setTop (mkF m 56 #[.val (.int x0), .val (.int x1), .val (.int x2), .val (.int x3), .val (.int x4), .val (.int cc), .val (.ref b1), .unset, .unset, .unset] [(.int cc), (.int (3 : Int32)), (.int x1), (.int x0), (.int (3 : Int32)), (.ref b1)]))
  obtain ⟨T8, X8, e8, st8⟩ := zq_callP (W := 2) X7 hx hZ hown (hw _ (List.mem_of_getElem? (i := 1) rfl)) (hw _ (List.mem_of_getElem? (i := 2) rfl)) (hw _ (List.mem_of_getElem? (i := 3) rfl)) (hw _ (List.mem_of_getElem? (i := 4) rfl)) (by decide) (zq_rmP l Z a0 hw [] x0 x1 (3 : Int32) cc h7) e7 (by decide) (by decide) rfl rfl (by decide) (by decide) (g := (mkF m 56 #[.val (.int x0), .val (.int x1), .val (.int x2), .val (.int x3), .val (.int x4), .val (.int cc), .val (.ref b1), .unset, .unset, .unset] [(.int cc), (.int (3 : Int32)), (.int x1), (.int x0), (.int (3 : Int32)), (.ref b1)])) rfl (by rw [hml]; rfl) (argsL := [(.int x0), (.int x1), (.int (3 : Int32)), (.int cc)]) (rest := [(.int (3 : Int32)), (.ref b1)]) (lenOf zq_pd2 rfl) rfl (by show 2 * 0 + _ ≤ _; exact Nat.le_of_eq rfl) (hb hby at_56)
  refine zq_go st8 ?_
  show zq_Go p e below s _ _ _ (T8.setTop (mkF m 59 #[.val (.int x0), .val (.int x1), .val (.int x2), .val (.int x3), .val (.int x4), .val (.int cc), .val (.ref b1), .unset, .unset, .unset] [(.int (zq_pick x0 x1 (3 : Int32) cc)), (.int (3 : Int32)), (.ref b1)]))
  obtain ⟨T9, h9, X9, e9, W9, A_b1, st9⟩ := zq_stB X8 hx hZ e8 A_b1 (j := (3 : Int32)) (i := 3) (by decide) (by decide) (by decide) (g := (mkF m 59 #[.val (.int x0), .val (.int x1), .val (.int x2), .val (.int x3), .val (.int x4), .val (.int cc), .val (.ref b1), .unset, .unset, .unset] [(.int (zq_pick x0 x1 (3 : Int32) cc)), (.int (3 : Int32)), (.ref b1)])) rfl rfl (hb hby at_59)
  refine zq_go st9 ?_
  have ZS := Nat.le_trans ZS (Keep.of_wr W9).1
  have A_b1 : zq_A Z h9 b1 .byte 4 (fun k => .int (([(zq_pick x0 x1 (0 : Int32) cc), (zq_pick x0 x1 (1 : Int32) cc), (zq_pick x0 x1 (2 : Int32) cc), (zq_pick x0 x1 (3 : Int32) cc).toInt8.toInt32] : List Int32).getD k 0)) := A_b1.congr (fun j hj => by match j, hj with | 0, _ => rfl | 1, _ => rfl | 2, _ => rfl | 3, _ => rfl | (j + 4), hj => exact absurd hj (by omega))
  obtain ⟨L9, X9, NF⟩ : ∃ L : List Loc, Stand p l e room_1 s m #[(.int x0), (.int x1), (.int x2), (.int x3), (.int x4)] below meth c T9 L 1 4 ∧ Fr h0.size L := ⟨_, X9, Fr.snoc X9 NF g_b1⟩
  rw [zq_pickb] at A_b1
  show zq_Go p e below s _ _ _ (T9.setTop (mkF m 60 #[.val (.int x0), .val (.int x1), .val (.int x2), .val (.int x3), .val (.int x4), .val (.int cc), .val (.ref b1), .unset, .unset, .unset] []))
  refine zq_go (fun _ k => XS.iloadN X9.here hx rfl (hb hby at_60) rfl k) ?_
  show zq_Go p e below s _ _ _ (T9.setTop (mkF m 61 #[.val (.int x0), .val (.int x1), .val (.int x2), .val (.int x3), .val (.int x4), .val (.int cc), .val (.ref b1), .unset, .unset, .unset] [(.int x3)]))
  refine zq_go (X9.ldcInt hx hown (mvT hZ (hw _ (List.mem_of_getElem? (i := 5) rfl))) (g := (mkF m 61 #[.val (.int x0), .val (.int x1), .val (.int x2), .val (.int x3), .val (.int x4), .val (.int cc), .val (.ref b1), .unset, .unset, .unset] [(.int x3)])) rfl (hb hby at_61)) ?_
  show zq_Go p e below s _ _ _ (T9.setTop (mkF m 63 #[.val (.int x0), .val (.int x1), .val (.int x2), .val (.int x3), .val (.int x4), .val (.int cc), .val (.ref b1), .unset, .unset, .unset] [(.int (2147483647 : Int32)), (.int x3)]))
  refine zq_go (fun _ k => XS.iand X9.here hx rfl (hb hby at_63) rfl k) ?_
  show zq_Go p e below s _ _ _ (T9.setTop (mkF m 64 #[.val (.int x0), .val (.int x1), .val (.int x2), .val (.int x3), .val (.int x4), .val (.int cc), .val (.ref b1), .unset, .unset, .unset] [(.int (x3 &&& (2147483647 : Int32)))]))
  refine zq_go (fun _ k => XS.iconst X9.here hx rfl (hb hby at_64) k) ?_
  show zq_Go p e below s _ _ _ (T9.setTop (mkF m 65 #[.val (.int x0), .val (.int x1), .val (.int x2), .val (.int x3), .val (.int x4), .val (.int cc), .val (.ref b1), .unset, .unset, .unset] [(.int (5 : Int32)), (.int (x3 &&& (2147483647 : Int32)))]))
  refine zq_go (fun _ k => XS.irem X9.here hx rfl (hb hby at_65) rfl (by decide) k) ?_
  show zq_Go p e below s _ _ _ (T9.setTop (mkF m 66 #[.val (.int x0), .val (.int x1), .val (.int x2), .val (.int x3), .val (.int x4), .val (.int cc), .val (.ref b1), .unset, .unset, .unset] [(.int ((x3 &&& (2147483647 : Int32)) - ((x3 &&& (2147483647 : Int32)) / (5 : Int32)) * (5 : Int32)))]))
  change zq_Go p e below s _ _ _ (T9.setTop (mkF m 66 #[.val (.int x0), .val (.int x1), .val (.int x2), .val (.int x3), .val (.int x4), .val (.int cc), .val (.ref b1), .unset, .unset, .unset] [(.int (zq_m5 x3))]))
  show zq_Go p e below s _ _ _ (T9.setTop (mkF m 66 #[.val (.int x0), .val (.int x1), .val (.int x2), .val (.int x3), .val (.int x4), .val (.int cc), .val (.ref b1), .unset, .unset, .unset] [(.int (zq_m5 x3))]))
  refine zq_go (fun _ k => XS.istore X9.here hx rfl (hb hby at_66) rfl (l' := #[.val (.int x0), .val (.int x1), .val (.int x2), .val (.int x3), .val (.int x4), .val (.int cc), .val (.ref b1), .val (.int (zq_m5 x3)), .unset, .unset]) rfl k) ?_
  show zq_Go p e below s _ _ _ (T9.setTop (mkF m 68 #[.val (.int x0), .val (.int x1), .val (.int x2), .val (.int x3), .val (.int x4), .val (.int cc), .val (.ref b1), .val (.int (zq_m5 x3)), .unset, .unset] []))
  refine zq_go (fun _ k => XS.iload X9.here hx rfl (hb hby at_68) rfl k) ?_
  show zq_Go p e below s _ _ _ (T9.setTop (mkF m 70 #[.val (.int x0), .val (.int x1), .val (.int x2), .val (.int x3), .val (.int x4), .val (.int cc), .val (.ref b1), .val (.int (zq_m5 x3)), .unset, .unset] [(.int x4)]))
  refine zq_go (X9.ldcInt hx hown (mvT hZ (hw _ (List.mem_of_getElem? (i := 5) rfl))) (g := (mkF m 70 #[.val (.int x0), .val (.int x1), .val (.int x2), .val (.int x3), .val (.int x4), .val (.int cc), .val (.ref b1), .val (.int (zq_m5 x3)), .unset, .unset] [(.int x4)])) rfl (hb hby at_70)) ?_
  show zq_Go p e below s _ _ _ (T9.setTop (mkF m 72 #[.val (.int x0), .val (.int x1), .val (.int x2), .val (.int x3), .val (.int x4), .val (.int cc), .val (.ref b1), .val (.int (zq_m5 x3)), .unset, .unset] [(.int (2147483647 : Int32)), (.int x4)]))
  refine zq_go (fun _ k => XS.iand X9.here hx rfl (hb hby at_72) rfl k) ?_
  show zq_Go p e below s _ _ _ (T9.setTop (mkF m 73 #[.val (.int x0), .val (.int x1), .val (.int x2), .val (.int x3), .val (.int x4), .val (.int cc), .val (.ref b1), .val (.int (zq_m5 x3)), .unset, .unset] [(.int (x4 &&& (2147483647 : Int32)))]))
  refine zq_go (fun _ k => XS.iconst X9.here hx rfl (hb hby at_73) k) ?_
  show zq_Go p e below s _ _ _ (T9.setTop (mkF m 74 #[.val (.int x0), .val (.int x1), .val (.int x2), .val (.int x3), .val (.int x4), .val (.int cc), .val (.ref b1), .val (.int (zq_m5 x3)), .unset, .unset] [(.int (5 : Int32)), (.int (x4 &&& (2147483647 : Int32)))]))
  refine zq_go (fun _ k => XS.irem X9.here hx rfl (hb hby at_74) rfl (by decide) k) ?_
  show zq_Go p e below s _ _ _ (T9.setTop (mkF m 75 #[.val (.int x0), .val (.int x1), .val (.int x2), .val (.int x3), .val (.int x4), .val (.int cc), .val (.ref b1), .val (.int (zq_m5 x3)), .unset, .unset] [(.int ((x4 &&& (2147483647 : Int32)) - ((x4 &&& (2147483647 : Int32)) / (5 : Int32)) * (5 : Int32)))]))
  change zq_Go p e below s _ _ _ (T9.setTop (mkF m 75 #[.val (.int x0), .val (.int x1), .val (.int x2), .val (.int x3), .val (.int x4), .val (.int cc), .val (.ref b1), .val (.int (zq_m5 x3)), .unset, .unset] [(.int (zq_m5 x4))]))
  show zq_Go p e below s _ _ _ (T9.setTop (mkF m 75 #[.val (.int x0), .val (.int x1), .val (.int x2), .val (.int x3), .val (.int x4), .val (.int cc), .val (.ref b1), .val (.int (zq_m5 x3)), .unset, .unset] [(.int (zq_m5 x4))]))
  refine zq_go (fun _ k => XS.istore X9.here hx rfl (hb hby at_75) rfl (l' := #[.val (.int x0), .val (.int x1), .val (.int x2), .val (.int x3), .val (.int x4), .val (.int cc), .val (.ref b1), .val (.int (zq_m5 x3)), .val (.int (zq_m5 x4)), .unset]) rfl k) ?_
  show zq_Go p e below s _ _ _ (T9.setTop (mkF m 77 #[.val (.int x0), .val (.int x1), .val (.int x2), .val (.int x3), .val (.int x4), .val (.int cc), .val (.ref b1), .val (.int (zq_m5 x3)), .val (.int (zq_m5 x4)), .unset] []))
  refine zq_go (fun _ k => XS.iconst X9.here hx rfl (hb hby at_77) k) ?_
  show zq_Go p e below s _ _ _ (T9.setTop (mkF m 78 #[.val (.int x0), .val (.int x1), .val (.int x2), .val (.int x3), .val (.int x4), .val (.int cc), .val (.ref b1), .val (.int (zq_m5 x3)), .val (.int (zq_m5 x4)), .unset] [(.int (-1 : Int32))]))
  refine zq_go (fun _ k => XS.istore X9.here hx rfl (hb hby at_78) rfl (l' := #[.val (.int x0), .val (.int x1), .val (.int x2), .val (.int x3), .val (.int x4), .val (.int cc), .val (.ref b1), .val (.int (zq_m5 x3)), .val (.int (zq_m5 x4)), .val (.int (-1 : Int32))]) rfl k) ?_
  show zq_Go p e below s _ _ _ (T9.setTop (mkF m 80 #[.val (.int x0), .val (.int x1), .val (.int x2), .val (.int x3), .val (.int x4), .val (.int cc), .val (.ref b1), .val (.int (zq_m5 x3)), .val (.int (zq_m5 x4)), .val (.int (-1 : Int32))] []))
  refine zq_go (fun _ k => XS.aload X9.here hx rfl (hb hby at_80) rfl rfl k) ?_
  show zq_Go p e below s _ _ _ (T9.setTop (mkF m 82 #[.val (.int x0), .val (.int x1), .val (.int x2), .val (.int x3), .val (.int x4), .val (.int cc), .val (.ref b1), .val (.int (zq_m5 x3)), .val (.int (zq_m5 x4)), .val (.int (-1 : Int32))] [(.ref b1)]))
  refine zq_go (fun _ k => XS.iload X9.here hx rfl (hb hby at_82) rfl k) ?_
  show zq_Go p e below s _ _ _ (T9.setTop (mkF m 84 #[.val (.int x0), .val (.int x1), .val (.int x2), .val (.int x3), .val (.int x4), .val (.int cc), .val (.ref b1), .val (.int (zq_m5 x3)), .val (.int (zq_m5 x4)), .val (.int (-1 : Int32))] [(.int cc), (.ref b1)]))
  refine zq_go (fun _ k => XS.iload X9.here hx rfl (hb hby at_84) rfl k) ?_
  show zq_Go p e below s _ _ _ (T9.setTop (mkF m 86 #[.val (.int x0), .val (.int x1), .val (.int x2), .val (.int x3), .val (.int x4), .val (.int cc), .val (.ref b1), .val (.int (zq_m5 x3)), .val (.int (zq_m5 x4)), .val (.int (-1 : Int32))] [(.int (zq_m5 x3)), (.int cc), (.ref b1)]))
  refine zq_go (fun _ k => XS.iload X9.here hx rfl (hb hby at_86) rfl k) ?_
  show zq_Go p e below s _ _ _ (T9.setTop (mkF m 88 #[.val (.int x0), .val (.int x1), .val (.int x2), .val (.int x3), .val (.int x4), .val (.int cc), .val (.ref b1), .val (.int (zq_m5 x3)), .val (.int (zq_m5 x4)), .val (.int (-1 : Int32))] [(.int (zq_m5 x4)), (.int (zq_m5 x3)), (.int cc), (.ref b1)]))
  refine zq_go (fun _ k => XS.iconst X9.here hx rfl (hb hby at_88) k) ?_
  show zq_Go p e below s _ _ _ (T9.setTop (mkF m 89 #[.val (.int x0), .val (.int x1), .val (.int x2), .val (.int x3), .val (.int x4), .val (.int cc), .val (.ref b1), .val (.int (zq_m5 x3)), .val (.int (zq_m5 x4)), .val (.int (-1 : Int32))] [(.int (3 : Int32)), (.int (zq_m5 x4)), (.int (zq_m5 x3)), (.int cc), (.ref b1)]))
  obtain ⟨T10, X10, e10, st10⟩ := zq_callP (W := 0) X9 hx hZ hown (hw _ (List.mem_of_getElem? (i := 6) rfl)) (hw _ (List.mem_of_getElem? (i := 7) rfl)) (hw _ (List.mem_of_getElem? (i := 3) rfl)) (hw _ (List.mem_of_getElem? (i := 8) rfl)) (by decide) (zq_rmH l Z a0 hw [] b1 cc (zq_m5 x3) (zq_m5 x4) (3 : Int32) h9 (fun k => ([(zq_pick x0 x1 (0 : Int32) cc), (zq_pick x0 x1 (1 : Int32) cc), (zq_pick x0 x1 (2 : Int32) cc), (zq_pick x0 x1 (3 : Int32) cc)] : List Int32).getD k 0) A_b1 (by decide) (by decide)) e9 (by decide) (by decide) rfl rfl (by decide) (by decide) (g := (mkF m 89 #[.val (.int x0), .val (.int x1), .val (.int x2), .val (.int x3), .val (.int x4), .val (.int cc), .val (.ref b1), .val (.int (zq_m5 x3)), .val (.int (zq_m5 x4)), .val (.int (-1 : Int32))] [(.int (3 : Int32)), (.int (zq_m5 x4)), (.int (zq_m5 x3)), (.int cc), (.ref b1)])) rfl (by rw [hml]; rfl) (argsL := [(.ref b1), (.int cc), (.int (zq_m5 x3)), (.int (zq_m5 x4)), (.int (3 : Int32))]) (rest := []) (lenOf zq_pd3 rfl) rfl (by show 2 * 0 + _ ≤ _; exact Nat.le_of_eq rfl) (hb hby at_89)
  refine zq_go st10 ?_
  show zq_Go p e below s _ _ _ (T10.setTop (mkF m 92 #[.val (.int x0), .val (.int x1), .val (.int x2), .val (.int x3), .val (.int x4), .val (.int cc), .val (.ref b1), .val (.int (zq_m5 x3)), .val (.int (zq_m5 x4)), .val (.int (-1 : Int32))] [(.int (zq_hit (fun j => decide (([(zq_pick x0 x1 (0 : Int32) cc), (zq_pick x0 x1 (1 : Int32) cc), (zq_pick x0 x1 (2 : Int32) cc), (zq_pick x0 x1 (3 : Int32) cc)] : List Int32).getD j 0 = cc)) (zq_m5 x3) (zq_m5 x4) (3 : Int32)))]))
  obtain ⟨v92_0, hv92_0⟩ : ∃ z : Int32, z = (if (zq_hit (fun j => decide (([(zq_pick x0 x1 (0 : Int32) cc), (zq_pick x0 x1 (1 : Int32) cc), (zq_pick x0 x1 (2 : Int32) cc), (zq_pick x0 x1 (3 : Int32) cc)] : List Int32).getD j 0 = cc)) (zq_m5 x3) (zq_m5 x4) (3 : Int32)) = (0 : Int32) then (-1 : Int32) else (3 : Int32)) := ⟨_, rfl⟩
  have J92 : ∀ (T0_98j11 : State), Stand p l e room_1 s m #[(.int x0), (.int x1), (.int x2), (.int x3), (.int x4)] below meth c T0_98j11 L9 1 4 → T0_98j11.heap = h9 → zq_Go p e below s (zq_one h0.size) room_1.cells room_1.slots (T0_98j11.setTop (mkF m 98 #[.val (.int x0), .val (.int x1), .val (.int x2), .val (.int x3), .val (.int x4), .val (.int cc), .val (.ref b1), .val (.int (zq_m5 x3)), .val (.int (zq_m5 x4)), .val (.int v92_0)] [])) := by
    intro T0_98j11 X0_98j11 e0_98j11
    show zq_Go p e below s _ _ _ (T0_98j11.setTop (mkF m 98 #[.val (.int x0), .val (.int x1), .val (.int x2), .val (.int x3), .val (.int x4), .val (.int cc), .val (.ref b1), .val (.int (zq_m5 x3)), .val (.int (zq_m5 x4)), .val (.int v92_0)] []))
    refine zq_go (fun _ k => XS.aload X0_98j11.here hx rfl (hb hby at_98) rfl rfl k) ?_
    show zq_Go p e below s _ _ _ (T0_98j11.setTop (mkF m 100 #[.val (.int x0), .val (.int x1), .val (.int x2), .val (.int x3), .val (.int x4), .val (.int cc), .val (.ref b1), .val (.int (zq_m5 x3)), .val (.int (zq_m5 x4)), .val (.int v92_0)] [(.ref b1)]))
    refine zq_go (fun _ k => XS.iload X0_98j11.here hx rfl (hb hby at_100) rfl k) ?_
    show zq_Go p e below s _ _ _ (T0_98j11.setTop (mkF m 102 #[.val (.int x0), .val (.int x1), .val (.int x2), .val (.int x3), .val (.int x4), .val (.int cc), .val (.ref b1), .val (.int (zq_m5 x3)), .val (.int (zq_m5 x4)), .val (.int v92_0)] [(.int cc), (.ref b1)]))
    refine zq_go (fun _ k => XS.iload X0_98j11.here hx rfl (hb hby at_102) rfl k) ?_
    show zq_Go p e below s _ _ _ (T0_98j11.setTop (mkF m 104 #[.val (.int x0), .val (.int x1), .val (.int x2), .val (.int x3), .val (.int x4), .val (.int cc), .val (.ref b1), .val (.int (zq_m5 x3)), .val (.int (zq_m5 x4)), .val (.int v92_0)] [(.int (zq_m5 x3)), (.int cc), (.ref b1)]))
    refine zq_go (fun _ k => XS.iload X0_98j11.here hx rfl (hb hby at_104) rfl k) ?_
    show zq_Go p e below s _ _ _ (T0_98j11.setTop (mkF m 106 #[.val (.int x0), .val (.int x1), .val (.int x2), .val (.int x3), .val (.int x4), .val (.int cc), .val (.ref b1), .val (.int (zq_m5 x3)), .val (.int (zq_m5 x4)), .val (.int v92_0)] [(.int (zq_m5 x4)), (.int (zq_m5 x3)), (.int cc), (.ref b1)]))
    refine zq_go (fun _ k => XS.iconst X0_98j11.here hx rfl (hb hby at_106) k) ?_
    show zq_Go p e below s _ _ _ (T0_98j11.setTop (mkF m 107 #[.val (.int x0), .val (.int x1), .val (.int x2), .val (.int x3), .val (.int x4), .val (.int cc), .val (.ref b1), .val (.int (zq_m5 x3)), .val (.int (zq_m5 x4)), .val (.int v92_0)] [(.int (2 : Int32)), (.int (zq_m5 x4)), (.int (zq_m5 x3)), (.int cc), (.ref b1)]))
    obtain ⟨T12, X12, e12, st12⟩ := zq_callP (W := 0) X0_98j11 hx hZ hown (hw _ (List.mem_of_getElem? (i := 6) rfl)) (hw _ (List.mem_of_getElem? (i := 7) rfl)) (hw _ (List.mem_of_getElem? (i := 3) rfl)) (hw _ (List.mem_of_getElem? (i := 8) rfl)) (by decide) (zq_rmH l Z a0 hw [] b1 cc (zq_m5 x3) (zq_m5 x4) (2 : Int32) h9 (fun k => ([(zq_pick x0 x1 (0 : Int32) cc), (zq_pick x0 x1 (1 : Int32) cc), (zq_pick x0 x1 (2 : Int32) cc), (zq_pick x0 x1 (3 : Int32) cc)] : List Int32).getD k 0) A_b1 (by decide) (by decide)) e0_98j11 (by decide) (by decide) rfl rfl (by decide) (by decide) (g := (mkF m 107 #[.val (.int x0), .val (.int x1), .val (.int x2), .val (.int x3), .val (.int x4), .val (.int cc), .val (.ref b1), .val (.int (zq_m5 x3)), .val (.int (zq_m5 x4)), .val (.int v92_0)] [(.int (2 : Int32)), (.int (zq_m5 x4)), (.int (zq_m5 x3)), (.int cc), (.ref b1)])) rfl (by rw [hml]; rfl) (argsL := [(.ref b1), (.int cc), (.int (zq_m5 x3)), (.int (zq_m5 x4)), (.int (2 : Int32))]) (rest := []) (lenOf zq_pd3 rfl) rfl (by show 2 * 0 + _ ≤ _; exact Nat.le_of_eq rfl) (hb hby at_107)
    refine zq_go st12 ?_
    show zq_Go p e below s _ _ _ (T12.setTop (mkF m 110 #[.val (.int x0), .val (.int x1), .val (.int x2), .val (.int x3), .val (.int x4), .val (.int cc), .val (.ref b1), .val (.int (zq_m5 x3)), .val (.int (zq_m5 x4)), .val (.int v92_0)] [(.int (zq_hit (fun j => decide (([(zq_pick x0 x1 (0 : Int32) cc), (zq_pick x0 x1 (1 : Int32) cc), (zq_pick x0 x1 (2 : Int32) cc), (zq_pick x0 x1 (3 : Int32) cc)] : List Int32).getD j 0 = cc)) (zq_m5 x3) (zq_m5 x4) (2 : Int32)))]))
    obtain ⟨v110_0, hv110_0⟩ : ∃ z : Int32, z = (if (zq_hit (fun j => decide (([(zq_pick x0 x1 (0 : Int32) cc), (zq_pick x0 x1 (1 : Int32) cc), (zq_pick x0 x1 (2 : Int32) cc), (zq_pick x0 x1 (3 : Int32) cc)] : List Int32).getD j 0 = cc)) (zq_m5 x3) (zq_m5 x4) (2 : Int32)) = (0 : Int32) then v92_0 else (2 : Int32)) := ⟨_, rfl⟩
    have J110 : ∀ (T0_116j13 : State), Stand p l e room_1 s m #[(.int x0), (.int x1), (.int x2), (.int x3), (.int x4)] below meth c T0_116j13 L9 1 4 → T0_116j13.heap = h9 → zq_Go p e below s (zq_one h0.size) room_1.cells room_1.slots (T0_116j13.setTop (mkF m 116 #[.val (.int x0), .val (.int x1), .val (.int x2), .val (.int x3), .val (.int x4), .val (.int cc), .val (.ref b1), .val (.int (zq_m5 x3)), .val (.int (zq_m5 x4)), .val (.int v110_0)] [])) := by
      intro T0_116j13 X0_116j13 e0_116j13
      show zq_Go p e below s _ _ _ (T0_116j13.setTop (mkF m 116 #[.val (.int x0), .val (.int x1), .val (.int x2), .val (.int x3), .val (.int x4), .val (.int cc), .val (.ref b1), .val (.int (zq_m5 x3)), .val (.int (zq_m5 x4)), .val (.int v110_0)] []))
      refine zq_go (fun _ k => XS.aload X0_116j13.here hx rfl (hb hby at_116) rfl rfl k) ?_
      show zq_Go p e below s _ _ _ (T0_116j13.setTop (mkF m 118 #[.val (.int x0), .val (.int x1), .val (.int x2), .val (.int x3), .val (.int x4), .val (.int cc), .val (.ref b1), .val (.int (zq_m5 x3)), .val (.int (zq_m5 x4)), .val (.int v110_0)] [(.ref b1)]))
      refine zq_go (fun _ k => XS.iload X0_116j13.here hx rfl (hb hby at_118) rfl k) ?_
      show zq_Go p e below s _ _ _ (T0_116j13.setTop (mkF m 120 #[.val (.int x0), .val (.int x1), .val (.int x2), .val (.int x3), .val (.int x4), .val (.int cc), .val (.ref b1), .val (.int (zq_m5 x3)), .val (.int (zq_m5 x4)), .val (.int v110_0)] [(.int cc), (.ref b1)]))
      refine zq_go (fun _ k => XS.iload X0_116j13.here hx rfl (hb hby at_120) rfl k) ?_
      show zq_Go p e below s _ _ _ (T0_116j13.setTop (mkF m 122 #[.val (.int x0), .val (.int x1), .val (.int x2), .val (.int x3), .val (.int x4), .val (.int cc), .val (.ref b1), .val (.int (zq_m5 x3)), .val (.int (zq_m5 x4)), .val (.int v110_0)] [(.int (zq_m5 x3)), (.int cc), (.ref b1)]))
      refine zq_go (fun _ k => XS.iload X0_116j13.here hx rfl (hb hby at_122) rfl k) ?_
      show zq_Go p e below s _ _ _ (T0_116j13.setTop (mkF m 124 #[.val (.int x0), .val (.int x1), .val (.int x2), .val (.int x3), .val (.int x4), .val (.int cc), .val (.ref b1), .val (.int (zq_m5 x3)), .val (.int (zq_m5 x4)), .val (.int v110_0)] [(.int (zq_m5 x4)), (.int (zq_m5 x3)), (.int cc), (.ref b1)]))
      refine zq_go (fun _ k => XS.iconst X0_116j13.here hx rfl (hb hby at_124) k) ?_
      show zq_Go p e below s _ _ _ (T0_116j13.setTop (mkF m 125 #[.val (.int x0), .val (.int x1), .val (.int x2), .val (.int x3), .val (.int x4), .val (.int cc), .val (.ref b1), .val (.int (zq_m5 x3)), .val (.int (zq_m5 x4)), .val (.int v110_0)] [(.int (1 : Int32)), (.int (zq_m5 x4)), (.int (zq_m5 x3)), (.int cc), (.ref b1)]))
      obtain ⟨T14, X14, e14, st14⟩ := zq_callP (W := 0) X0_116j13 hx hZ hown (hw _ (List.mem_of_getElem? (i := 6) rfl)) (hw _ (List.mem_of_getElem? (i := 7) rfl)) (hw _ (List.mem_of_getElem? (i := 3) rfl)) (hw _ (List.mem_of_getElem? (i := 8) rfl)) (by decide) (zq_rmH l Z a0 hw [] b1 cc (zq_m5 x3) (zq_m5 x4) (1 : Int32) h9 (fun k => ([(zq_pick x0 x1 (0 : Int32) cc), (zq_pick x0 x1 (1 : Int32) cc), (zq_pick x0 x1 (2 : Int32) cc), (zq_pick x0 x1 (3 : Int32) cc)] : List Int32).getD k 0) A_b1 (by decide) (by decide)) e0_116j13 (by decide) (by decide) rfl rfl (by decide) (by decide) (g := (mkF m 125 #[.val (.int x0), .val (.int x1), .val (.int x2), .val (.int x3), .val (.int x4), .val (.int cc), .val (.ref b1), .val (.int (zq_m5 x3)), .val (.int (zq_m5 x4)), .val (.int v110_0)] [(.int (1 : Int32)), (.int (zq_m5 x4)), (.int (zq_m5 x3)), (.int cc), (.ref b1)])) rfl (by rw [hml]; rfl) (argsL := [(.ref b1), (.int cc), (.int (zq_m5 x3)), (.int (zq_m5 x4)), (.int (1 : Int32))]) (rest := []) (lenOf zq_pd3 rfl) rfl (by show 2 * 0 + _ ≤ _; exact Nat.le_of_eq rfl) (hb hby at_125)
      refine zq_go st14 ?_
      show zq_Go p e below s _ _ _ (T14.setTop (mkF m 128 #[.val (.int x0), .val (.int x1), .val (.int x2), .val (.int x3), .val (.int x4), .val (.int cc), .val (.ref b1), .val (.int (zq_m5 x3)), .val (.int (zq_m5 x4)), .val (.int v110_0)] [(.int (zq_hit (fun j => decide (([(zq_pick x0 x1 (0 : Int32) cc), (zq_pick x0 x1 (1 : Int32) cc), (zq_pick x0 x1 (2 : Int32) cc), (zq_pick x0 x1 (3 : Int32) cc)] : List Int32).getD j 0 = cc)) (zq_m5 x3) (zq_m5 x4) (1 : Int32)))]))
      obtain ⟨v128_0, hv128_0⟩ : ∃ z : Int32, z = (if (zq_hit (fun j => decide (([(zq_pick x0 x1 (0 : Int32) cc), (zq_pick x0 x1 (1 : Int32) cc), (zq_pick x0 x1 (2 : Int32) cc), (zq_pick x0 x1 (3 : Int32) cc)] : List Int32).getD j 0 = cc)) (zq_m5 x3) (zq_m5 x4) (1 : Int32)) = (0 : Int32) then v110_0 else (1 : Int32)) := ⟨_, rfl⟩
      have J128 : ∀ (T0_134j15 : State), Stand p l e room_1 s m #[(.int x0), (.int x1), (.int x2), (.int x3), (.int x4)] below meth c T0_134j15 L9 1 4 → T0_134j15.heap = h9 → zq_Go p e below s (zq_one h0.size) room_1.cells room_1.slots (T0_134j15.setTop (mkF m 134 #[.val (.int x0), .val (.int x1), .val (.int x2), .val (.int x3), .val (.int x4), .val (.int cc), .val (.ref b1), .val (.int (zq_m5 x3)), .val (.int (zq_m5 x4)), .val (.int v128_0)] [])) := by
        intro T0_134j15 X0_134j15 e0_134j15
        show zq_Go p e below s _ _ _ (T0_134j15.setTop (mkF m 134 #[.val (.int x0), .val (.int x1), .val (.int x2), .val (.int x3), .val (.int x4), .val (.int cc), .val (.ref b1), .val (.int (zq_m5 x3)), .val (.int (zq_m5 x4)), .val (.int v128_0)] []))
        refine zq_go (fun _ k => XS.aload X0_134j15.here hx rfl (hb hby at_134) rfl rfl k) ?_
        show zq_Go p e below s _ _ _ (T0_134j15.setTop (mkF m 136 #[.val (.int x0), .val (.int x1), .val (.int x2), .val (.int x3), .val (.int x4), .val (.int cc), .val (.ref b1), .val (.int (zq_m5 x3)), .val (.int (zq_m5 x4)), .val (.int v128_0)] [(.ref b1)]))
        refine zq_go (fun _ k => XS.iload X0_134j15.here hx rfl (hb hby at_136) rfl k) ?_
        show zq_Go p e below s _ _ _ (T0_134j15.setTop (mkF m 138 #[.val (.int x0), .val (.int x1), .val (.int x2), .val (.int x3), .val (.int x4), .val (.int cc), .val (.ref b1), .val (.int (zq_m5 x3)), .val (.int (zq_m5 x4)), .val (.int v128_0)] [(.int cc), (.ref b1)]))
        refine zq_go (fun _ k => XS.iload X0_134j15.here hx rfl (hb hby at_138) rfl k) ?_
        show zq_Go p e below s _ _ _ (T0_134j15.setTop (mkF m 140 #[.val (.int x0), .val (.int x1), .val (.int x2), .val (.int x3), .val (.int x4), .val (.int cc), .val (.ref b1), .val (.int (zq_m5 x3)), .val (.int (zq_m5 x4)), .val (.int v128_0)] [(.int (zq_m5 x3)), (.int cc), (.ref b1)]))
        refine zq_go (fun _ k => XS.iload X0_134j15.here hx rfl (hb hby at_140) rfl k) ?_
        show zq_Go p e below s _ _ _ (T0_134j15.setTop (mkF m 142 #[.val (.int x0), .val (.int x1), .val (.int x2), .val (.int x3), .val (.int x4), .val (.int cc), .val (.ref b1), .val (.int (zq_m5 x3)), .val (.int (zq_m5 x4)), .val (.int v128_0)] [(.int (zq_m5 x4)), (.int (zq_m5 x3)), (.int cc), (.ref b1)]))
        refine zq_go (fun _ k => XS.iconst X0_134j15.here hx rfl (hb hby at_142) k) ?_
        show zq_Go p e below s _ _ _ (T0_134j15.setTop (mkF m 143 #[.val (.int x0), .val (.int x1), .val (.int x2), .val (.int x3), .val (.int x4), .val (.int cc), .val (.ref b1), .val (.int (zq_m5 x3)), .val (.int (zq_m5 x4)), .val (.int v128_0)] [(.int (0 : Int32)), (.int (zq_m5 x4)), (.int (zq_m5 x3)), (.int cc), (.ref b1)]))
        obtain ⟨T16, X16, e16, st16⟩ := zq_callP (W := 0) X0_134j15 hx hZ hown (hw _ (List.mem_of_getElem? (i := 6) rfl)) (hw _ (List.mem_of_getElem? (i := 7) rfl)) (hw _ (List.mem_of_getElem? (i := 3) rfl)) (hw _ (List.mem_of_getElem? (i := 8) rfl)) (by decide) (zq_rmH l Z a0 hw [] b1 cc (zq_m5 x3) (zq_m5 x4) (0 : Int32) h9 (fun k => ([(zq_pick x0 x1 (0 : Int32) cc), (zq_pick x0 x1 (1 : Int32) cc), (zq_pick x0 x1 (2 : Int32) cc), (zq_pick x0 x1 (3 : Int32) cc)] : List Int32).getD k 0) A_b1 (by decide) (by decide)) e0_134j15 (by decide) (by decide) rfl rfl (by decide) (by decide) (g := (mkF m 143 #[.val (.int x0), .val (.int x1), .val (.int x2), .val (.int x3), .val (.int x4), .val (.int cc), .val (.ref b1), .val (.int (zq_m5 x3)), .val (.int (zq_m5 x4)), .val (.int v128_0)] [(.int (0 : Int32)), (.int (zq_m5 x4)), (.int (zq_m5 x3)), (.int cc), (.ref b1)])) rfl (by rw [hml]; rfl) (argsL := [(.ref b1), (.int cc), (.int (zq_m5 x3)), (.int (zq_m5 x4)), (.int (0 : Int32))]) (rest := []) (lenOf zq_pd3 rfl) rfl (by show 2 * 0 + _ ≤ _; exact Nat.le_of_eq rfl) (hb hby at_143)
        refine zq_go st16 ?_
        show zq_Go p e below s _ _ _ (T16.setTop (mkF m 146 #[.val (.int x0), .val (.int x1), .val (.int x2), .val (.int x3), .val (.int x4), .val (.int cc), .val (.ref b1), .val (.int (zq_m5 x3)), .val (.int (zq_m5 x4)), .val (.int v128_0)] [(.int (zq_hit (fun j => decide (([(zq_pick x0 x1 (0 : Int32) cc), (zq_pick x0 x1 (1 : Int32) cc), (zq_pick x0 x1 (2 : Int32) cc), (zq_pick x0 x1 (3 : Int32) cc)] : List Int32).getD j 0 = cc)) (zq_m5 x3) (zq_m5 x4) (0 : Int32)))]))
        obtain ⟨v146_0, hv146_0⟩ : ∃ z : Int32, z = (if (zq_hit (fun j => decide (([(zq_pick x0 x1 (0 : Int32) cc), (zq_pick x0 x1 (1 : Int32) cc), (zq_pick x0 x1 (2 : Int32) cc), (zq_pick x0 x1 (3 : Int32) cc)] : List Int32).getD j 0 = cc)) (zq_m5 x3) (zq_m5 x4) (0 : Int32)) = (0 : Int32) then v128_0 else (0 : Int32)) := ⟨_, rfl⟩
        have J146 : ∀ (T0_152j17 : State), Stand p l e room_1 s m #[(.int x0), (.int x1), (.int x2), (.int x3), (.int x4)] below meth c T0_152j17 L9 1 4 → T0_152j17.heap = h9 → zq_Go p e below s (zq_one h0.size) room_1.cells room_1.slots (T0_152j17.setTop (mkF m 152 #[.val (.int x0), .val (.int x1), .val (.int x2), .val (.int x3), .val (.int x4), .val (.int cc), .val (.ref b1), .val (.int (zq_m5 x3)), .val (.int (zq_m5 x4)), .val (.int v146_0)] [])) := by
          intro T0_152j17 X0_152j17 e0_152j17
          show zq_Go p e below s _ _ _ (T0_152j17.setTop (mkF m 152 #[.val (.int x0), .val (.int x1), .val (.int x2), .val (.int x3), .val (.int x4), .val (.int cc), .val (.ref b1), .val (.int (zq_m5 x3)), .val (.int (zq_m5 x4)), .val (.int v146_0)] []))
          refine zq_go (fun _ k => XS.aload X0_152j17.here hx rfl (hb hby at_152) rfl rfl k) ?_
          show zq_Go p e below s _ _ _ (T0_152j17.setTop (mkF m 154 #[.val (.int x0), .val (.int x1), .val (.int x2), .val (.int x3), .val (.int x4), .val (.int cc), .val (.ref b1), .val (.int (zq_m5 x3)), .val (.int (zq_m5 x4)), .val (.int v146_0)] [(.ref b1)]))
          refine zq_go (fun _ k => XS.iload X0_152j17.here hx rfl (hb hby at_154) rfl k) ?_
          show zq_Go p e below s _ _ _ (T0_152j17.setTop (mkF m 156 #[.val (.int x0), .val (.int x1), .val (.int x2), .val (.int x3), .val (.int x4), .val (.int cc), .val (.ref b1), .val (.int (zq_m5 x3)), .val (.int (zq_m5 x4)), .val (.int v146_0)] [(.int cc), (.ref b1)]))
          refine zq_go (fun _ k => XS.iload X0_152j17.here hx rfl (hb hby at_156) rfl k) ?_
          show zq_Go p e below s _ _ _ (T0_152j17.setTop (mkF m 158 #[.val (.int x0), .val (.int x1), .val (.int x2), .val (.int x3), .val (.int x4), .val (.int cc), .val (.ref b1), .val (.int (zq_m5 x3)), .val (.int (zq_m5 x4)), .val (.int v146_0)] [(.int (zq_m5 x3)), (.int cc), (.ref b1)]))
          refine zq_go (fun _ k => XS.iload X0_152j17.here hx rfl (hb hby at_158) rfl k) ?_
          show zq_Go p e below s _ _ _ (T0_152j17.setTop (mkF m 160 #[.val (.int x0), .val (.int x1), .val (.int x2), .val (.int x3), .val (.int x4), .val (.int cc), .val (.ref b1), .val (.int (zq_m5 x3)), .val (.int (zq_m5 x4)), .val (.int v146_0)] [(.int (zq_m5 x4)), (.int (zq_m5 x3)), (.int cc), (.ref b1)]))
          obtain ⟨T18, X18, e18, st18⟩ := zq_callP (W := 0) X0_152j17 hx hZ hown (hw _ (List.mem_of_getElem? (i := 9) rfl)) (hw _ (List.mem_of_getElem? (i := 10) rfl)) (hw _ (List.mem_of_getElem? (i := 11) rfl)) (hw _ (List.mem_of_getElem? (i := 12) rfl)) (by decide) (zq_rmX l Z a0 hw [] b1 cc (zq_m5 x3) (zq_m5 x4) h9 (fun k => ([(zq_pick x0 x1 (0 : Int32) cc), (zq_pick x0 x1 (1 : Int32) cc), (zq_pick x0 x1 (2 : Int32) cc), (zq_pick x0 x1 (3 : Int32) cc)] : List Int32).getD k 0) A_b1 (zq_rng5 _).1 (zq_rng5 _).2) e0_152j17 (by decide) (by decide) rfl rfl (by decide) (by decide) (g := (mkF m 160 #[.val (.int x0), .val (.int x1), .val (.int x2), .val (.int x3), .val (.int x4), .val (.int cc), .val (.ref b1), .val (.int (zq_m5 x3)), .val (.int (zq_m5 x4)), .val (.int v146_0)] [(.int (zq_m5 x4)), (.int (zq_m5 x3)), (.int cc), (.ref b1)])) rfl (by rw [hml]; rfl) (argsL := [(.ref b1), (.int cc), (.int (zq_m5 x3)), (.int (zq_m5 x4))]) (rest := []) (lenOf zq_pd4 rfl) rfl (by show 2 * 0 + _ ≤ _; exact Nat.le_of_eq rfl) (hb hby at_160)
          refine zq_go st18 ?_
          show zq_Go p e below s _ _ _ (T18.setTop (mkF m 163 #[.val (.int x0), .val (.int x1), .val (.int x2), .val (.int x3), .val (.int x4), .val (.int cc), .val (.ref b1), .val (.int (zq_m5 x3)), .val (.int (zq_m5 x4)), .val (.int v146_0)] [(.int (zq_find (fun j => decide (([(zq_pick x0 x1 (0 : Int32) cc), (zq_pick x0 x1 (1 : Int32) cc), (zq_pick x0 x1 (2 : Int32) cc), (zq_pick x0 x1 (3 : Int32) cc)] : List Int32).getD j 0 = cc)) (zq_m5 x4) 4 (zq_m5 x3)))]))
          refine zq_go (fun _ k => XS.iload X18.here hx rfl (hb hby at_163) rfl k) ?_
          show zq_Go p e below s _ _ _ (T18.setTop (mkF m 165 #[.val (.int x0), .val (.int x1), .val (.int x2), .val (.int x3), .val (.int x4), .val (.int cc), .val (.ref b1), .val (.int (zq_m5 x3)), .val (.int (zq_m5 x4)), .val (.int v146_0)] [(.int v146_0), (.int (zq_find (fun j => decide (([(zq_pick x0 x1 (0 : Int32) cc), (zq_pick x0 x1 (1 : Int32) cc), (zq_pick x0 x1 (2 : Int32) cc), (zq_pick x0 x1 (3 : Int32) cc)] : List Int32).getD j 0 = cc)) (zq_m5 x4) 4 (zq_m5 x3)))]))
          refine zq_go (fun _ k => XS.icmpNo X18.here hx rfl (hb hby at_165) rfl (teq (by rw [hv146_0, hv128_0, hv110_0, hv92_0]; exact zq_law _ _ _ _ _ _ _ : (zq_find (fun j => decide (([(zq_pick x0 x1 (0 : Int32) cc), (zq_pick x0 x1 (1 : Int32) cc), (zq_pick x0 x1 (2 : Int32) cc), (zq_pick x0 x1 (3 : Int32) cc)] : List Int32).getD j 0 = cc)) (zq_m5 x4) 4 (zq_m5 x3)) = v146_0)).2 k) ?_
          show zq_Go p e below s _ _ _ (T18.setTop (mkF m 168 #[.val (.int x0), .val (.int x1), .val (.int x2), .val (.int x3), .val (.int x4), .val (.int cc), .val (.ref b1), .val (.int (zq_m5 x3)), .val (.int (zq_m5 x4)), .val (.int v146_0)] []))
          refine zq_go (fun _ k => XS.iconst X18.here hx rfl (hb hby at_168) k) ?_
          show zq_Go p e below s _ _ _ (T18.setTop (mkF m 169 #[.val (.int x0), .val (.int x1), .val (.int x2), .val (.int x3), .val (.int x4), .val (.int cc), .val (.ref b1), .val (.int (zq_m5 x3)), .val (.int (zq_m5 x4)), .val (.int v146_0)] [(.int (1 : Int32))]))
          refine zq_go (fun _ k => XS.goto X18.here hx rfl (pc0 := 169) (pc' := 173) rfl (hb hby at_169) (by decide) (by decide) k) ?_
          show zq_Go p e below s _ _ _ (T18.setTop (mkF m 173 #[.val (.int x0), .val (.int x1), .val (.int x2), .val (.int x3), .val (.int x4), .val (.int cc), .val (.ref b1), .val (.int (zq_m5 x3)), .val (.int (zq_m5 x4)), .val (.int v146_0)] [(.int (1 : Int32))]))
          exact zq_retN X18 hx hlk (t := .boolean) hret (by simp) (hb hby at_173) ⟨rfl, NF⟩ (by decide) (by decide)
        by_cases hc146 : (zq_hit (fun j => decide (([(zq_pick x0 x1 (0 : Int32) cc), (zq_pick x0 x1 (1 : Int32) cc), (zq_pick x0 x1 (2 : Int32) cc), (zq_pick x0 x1 (3 : Int32) cc)] : List Int32).getD j 0 = cc)) (zq_m5 x3) (zq_m5 x4) (0 : Int32)) = (0 : Int32)
        ·
          rw [if_pos hc146] at hv146_0
          rw [hv146_0] at J146
          refine zq_go (fun _ k => XS.ifYes X16.here hx rfl (pc0 := 146) (pc' := 152) rfl (hb hby at_146) rfl ((if0 _ _).trans (teq hc146).1) (by decide) (by decide) k) ?_
          exact J146 _ X16 e16
        rw [if_neg hc146] at hv146_0
        rw [hv146_0] at J146
        refine zq_go (fun _ k => XS.ifNo X16.here hx rfl (hb hby at_146) rfl ((if0 _ _).trans (feq hc146).1) k) ?_
        show zq_Go p e below s _ _ _ (T16.setTop (mkF m 149 #[.val (.int x0), .val (.int x1), .val (.int x2), .val (.int x3), .val (.int x4), .val (.int cc), .val (.ref b1), .val (.int (zq_m5 x3)), .val (.int (zq_m5 x4)), .val (.int v128_0)] []))
        refine zq_go (fun _ k => XS.iconst X16.here hx rfl (hb hby at_149) k) ?_
        show zq_Go p e below s _ _ _ (T16.setTop (mkF m 150 #[.val (.int x0), .val (.int x1), .val (.int x2), .val (.int x3), .val (.int x4), .val (.int cc), .val (.ref b1), .val (.int (zq_m5 x3)), .val (.int (zq_m5 x4)), .val (.int v128_0)] [(.int (0 : Int32))]))
        refine zq_go (fun _ k => XS.istore X16.here hx rfl (hb hby at_150) rfl (l' := #[.val (.int x0), .val (.int x1), .val (.int x2), .val (.int x3), .val (.int x4), .val (.int cc), .val (.ref b1), .val (.int (zq_m5 x3)), .val (.int (zq_m5 x4)), .val (.int (0 : Int32))]) rfl k) ?_
        exact J146 _ X16 e16
      by_cases hc128 : (zq_hit (fun j => decide (([(zq_pick x0 x1 (0 : Int32) cc), (zq_pick x0 x1 (1 : Int32) cc), (zq_pick x0 x1 (2 : Int32) cc), (zq_pick x0 x1 (3 : Int32) cc)] : List Int32).getD j 0 = cc)) (zq_m5 x3) (zq_m5 x4) (1 : Int32)) = (0 : Int32)
      ·
        rw [if_pos hc128] at hv128_0
        rw [hv128_0] at J128
        refine zq_go (fun _ k => XS.ifYes X14.here hx rfl (pc0 := 128) (pc' := 134) rfl (hb hby at_128) rfl ((if0 _ _).trans (teq hc128).1) (by decide) (by decide) k) ?_
        exact J128 _ X14 e14
      rw [if_neg hc128] at hv128_0
      rw [hv128_0] at J128
      refine zq_go (fun _ k => XS.ifNo X14.here hx rfl (hb hby at_128) rfl ((if0 _ _).trans (feq hc128).1) k) ?_
      show zq_Go p e below s _ _ _ (T14.setTop (mkF m 131 #[.val (.int x0), .val (.int x1), .val (.int x2), .val (.int x3), .val (.int x4), .val (.int cc), .val (.ref b1), .val (.int (zq_m5 x3)), .val (.int (zq_m5 x4)), .val (.int v110_0)] []))
      refine zq_go (fun _ k => XS.iconst X14.here hx rfl (hb hby at_131) k) ?_
      show zq_Go p e below s _ _ _ (T14.setTop (mkF m 132 #[.val (.int x0), .val (.int x1), .val (.int x2), .val (.int x3), .val (.int x4), .val (.int cc), .val (.ref b1), .val (.int (zq_m5 x3)), .val (.int (zq_m5 x4)), .val (.int v110_0)] [(.int (1 : Int32))]))
      refine zq_go (fun _ k => XS.istore X14.here hx rfl (hb hby at_132) rfl (l' := #[.val (.int x0), .val (.int x1), .val (.int x2), .val (.int x3), .val (.int x4), .val (.int cc), .val (.ref b1), .val (.int (zq_m5 x3)), .val (.int (zq_m5 x4)), .val (.int (1 : Int32))]) rfl k) ?_
      exact J128 _ X14 e14
    by_cases hc110 : (zq_hit (fun j => decide (([(zq_pick x0 x1 (0 : Int32) cc), (zq_pick x0 x1 (1 : Int32) cc), (zq_pick x0 x1 (2 : Int32) cc), (zq_pick x0 x1 (3 : Int32) cc)] : List Int32).getD j 0 = cc)) (zq_m5 x3) (zq_m5 x4) (2 : Int32)) = (0 : Int32)
    ·
      rw [if_pos hc110] at hv110_0
      rw [hv110_0] at J110
      refine zq_go (fun _ k => XS.ifYes X12.here hx rfl (pc0 := 110) (pc' := 116) rfl (hb hby at_110) rfl ((if0 _ _).trans (teq hc110).1) (by decide) (by decide) k) ?_
      exact J110 _ X12 e12
    rw [if_neg hc110] at hv110_0
    rw [hv110_0] at J110
    refine zq_go (fun _ k => XS.ifNo X12.here hx rfl (hb hby at_110) rfl ((if0 _ _).trans (feq hc110).1) k) ?_
    show zq_Go p e below s _ _ _ (T12.setTop (mkF m 113 #[.val (.int x0), .val (.int x1), .val (.int x2), .val (.int x3), .val (.int x4), .val (.int cc), .val (.ref b1), .val (.int (zq_m5 x3)), .val (.int (zq_m5 x4)), .val (.int v92_0)] []))
    refine zq_go (fun _ k => XS.iconst X12.here hx rfl (hb hby at_113) k) ?_
    show zq_Go p e below s _ _ _ (T12.setTop (mkF m 114 #[.val (.int x0), .val (.int x1), .val (.int x2), .val (.int x3), .val (.int x4), .val (.int cc), .val (.ref b1), .val (.int (zq_m5 x3)), .val (.int (zq_m5 x4)), .val (.int v92_0)] [(.int (2 : Int32))]))
    refine zq_go (fun _ k => XS.istore X12.here hx rfl (hb hby at_114) rfl (l' := #[.val (.int x0), .val (.int x1), .val (.int x2), .val (.int x3), .val (.int x4), .val (.int cc), .val (.ref b1), .val (.int (zq_m5 x3)), .val (.int (zq_m5 x4)), .val (.int (2 : Int32))]) rfl k) ?_
    exact J110 _ X12 e12
  by_cases hc92 : (zq_hit (fun j => decide (([(zq_pick x0 x1 (0 : Int32) cc), (zq_pick x0 x1 (1 : Int32) cc), (zq_pick x0 x1 (2 : Int32) cc), (zq_pick x0 x1 (3 : Int32) cc)] : List Int32).getD j 0 = cc)) (zq_m5 x3) (zq_m5 x4) (3 : Int32)) = (0 : Int32)
  ·
    rw [if_pos hc92] at hv92_0
    rw [hv92_0] at J92
    refine zq_go (fun _ k => XS.ifYes X10.here hx rfl (pc0 := 92) (pc' := 98) rfl (hb hby at_92) rfl ((if0 _ _).trans (teq hc92).1) (by decide) (by decide) k) ?_
    exact J92 _ X10 e10
  rw [if_neg hc92] at hv92_0
  rw [hv92_0] at J92
  refine zq_go (fun _ k => XS.ifNo X10.here hx rfl (hb hby at_92) rfl ((if0 _ _).trans (feq hc92).1) k) ?_
  show zq_Go p e below s _ _ _ (T10.setTop (mkF m 95 #[.val (.int x0), .val (.int x1), .val (.int x2), .val (.int x3), .val (.int x4), .val (.int cc), .val (.ref b1), .val (.int (zq_m5 x3)), .val (.int (zq_m5 x4)), .val (.int (-1 : Int32))] []))
  refine zq_go (fun _ k => XS.iconst X10.here hx rfl (hb hby at_95) k) ?_
  show zq_Go p e below s _ _ _ (T10.setTop (mkF m 96 #[.val (.int x0), .val (.int x1), .val (.int x2), .val (.int x3), .val (.int x4), .val (.int cc), .val (.ref b1), .val (.int (zq_m5 x3)), .val (.int (zq_m5 x4)), .val (.int (-1 : Int32))] [(.int (3 : Int32))]))
  refine zq_go (fun _ k => XS.istore X10.here hx rfl (hb hby at_96) rfl (l' := #[.val (.int x0), .val (.int x1), .val (.int x2), .val (.int x3), .val (.int x4), .val (.int cc), .val (.ref b1), .val (.int (zq_m5 x3)), .val (.int (zq_m5 x4)), .val (.int (3 : Int32))]) rfl k) ?_
  exact J92 _ X10 e10
set_option maxRecDepth 65536 in
set_option maxHeartbeats 40000000 in
theorem zq_comes {Post : Tables → Env → Array Value → State → Outcome → State → Prop} (hpost : ∀ tb e args s v u, (limb_1_1.after args s (.returned v) u = true ∧ limb_1_2.after args s (.returned v) u = true ∧ True) → FrameEnd s (.returned v) u (Jvm.fieldLocs frame_1_writes args s ++ Jvm.arrayLocs frame_1_arrays args s ++ Jvm.staticLocs frame_1_statics s) 16 128 → Post tb e args s (.returned v) u) :
    ArmFor flags0 classFile x code maxLocals ret World_1 tables_1 room_1 Calls_1 rest_1 Pre_1 Post := by
  intro l hfl _ _ p e ha hc hk s m args below hf hA hF happ hP
  obtain ⟨hcalls, hrest, hpre⟩ := hP
  obtain ⟨-, -, -, hnamed, -, -, -, hat⟩ := (Spec.applies_iff hf).mp happ
  obtain ⟨hg, hn⟩ := and_e (Cond.before_iff.mp (show (Jvm.Cond.and given_1 narrow_1).before args s = true from hpre))
  obtain ⟨g0, t0⟩ := and_e hg
  obtain ⟨g1, t1⟩ := and_e t0
  obtain ⟨g2, t2⟩ := and_e t1
  obtain ⟨g3, t3⟩ := and_e t2
  obtain ⟨g4, t4⟩ := and_e t3
  obtain ⟨w0, w1, w2, w3, w4, rfl⟩ : ∃ w0 w1 w2 w3 w4 : Value, args = #[w0, w1, w2, w3, w4] := by
    have hs : args.size = 5 := by simpa [Cond.value, given_1] using g0
    obtain ⟨L⟩ := args
    match L, hs with
    | [w0, w1, w2, w3, w4], _ => exact ⟨w0, w1, w2, w3, w4, rfl⟩
  have hw := fun d (hd : d ∈ tables_1) => atoms_spec (ws := Jvm.Cond.code x code maxLocals ret :: tables_1) hat d (List.mem_cons_of_mem _ hd)
  obtain ⟨i0, ei0⟩ := is_v g1
  obtain rfl : w0 = (.int i0) := Option.some.inj ei0
  obtain ⟨i1, ei1⟩ := is_v g2
  obtain rfl : w1 = (.int i1) := Option.some.inj ei1
  obtain ⟨i2, ei2⟩ := is_v g3
  obtain rfl : w2 = (.int i2) := Option.some.inj ei2
  obtain ⟨i3, ei3⟩ := is_v g4
  obtain rfl : w3 = (.int i3) := Option.some.inj ei3
  obtain ⟨i4, ei4⟩ := is_v t4
  obtain rfl : w4 = (.int i4) := Option.some.inj ei4
  obtain ⟨n, o, h1, h2, h3, _, L, rfl, ⟨rfl, N⟩, hq⟩ := zq_rm0 l s _ hw tables_1 i0 i1 i2 i3 i4 s.heap p e ha hc hk s m _ below hf ((Spec.applies_iff_loose hf).mp happ).1 ⟨rfl, State.Warmed39.refl s, rfl⟩ trivial
  refine ⟨n, _, h1, h2, h3, hpost _ _ _ _ _ _ ⟨Cond.after_iff.mpr rfl, Cond.after_iff.mpr (eq_i res_at (Term.int_eval (1)) rfl), trivial⟩ ⟨hq.1, hq.2.1, (hq.2.2.sift fun y hy => Or.inr (N y hy)).mono (by decide) (by decide)⟩⟩
theorem main_1_1 : Claimed_1_1 := zq_comes fun _ _ _ _ _ _ h hF => ⟨h.1, hF⟩
theorem main_1_2 : Claimed_1_2 := zq_comes fun _ _ _ _ _ _ h hF => ⟨h.2.1, hF⟩
end Jvm.Pilot.@@N@@
namespace Jvm.Pilot.@@N@@
open Jvm Jvm.ClassFile Sem Op Lib Jvm.Free Jvm.Stand Jvm.Pilot.@@N@@.Jvm.D
/-! MADE BY PROGRAM (witnessworld.py) out of the Statement's table words and the real class files: 9 classes; the members and pool entries that the words name. The judged class is class 1, her method 1. -/
namespace start1
open Jvm.ClassFile
def u (s : String) : CpInfo := .utf8 (stringToUtf16 s)
/-- a pool by its gaps: so many unusable entries, then the entry; so many at the end -/
def gap : Nat → List CpInfo → List CpInfo
  | 0, r => r
  | n + 1, r => .unusable :: gap n r
def poolList (es : List (Nat × CpInfo)) (last : Nat) : List CpInfo := es.foldr (fun e r => gap e.1 (e.2 :: r)) (gap last [])
def pool (es : List (Nat × CpInfo)) (last : Nat) : Array CpInfo := ⟨poolList es last⟩
def fileOf (pool : Array CpInfo) (this : Nat) (attrs : Array Attribute := #[]) (ms : Array MethodInfo := #[]) (fl : Nat := 33) (sup : Nat := 0) (ifs : Array Nat := #[]) (fds : Array FieldInfo := #[]) : ClassFile where
  minorVersion := 0
  majorVersion := 65
  constantPool := pool
  accessFlags := fl
  thisClass := this
  superClass := sup
  interfaces := ifs
  fields := fds
  methods := ms
  attributes := attrs
def plain (name : String) (sup : Option ClassId) : Class where
  name := name
  kind := .ordinary
  loader := none
  accessFlags := 33
  super := sup
  interfaces := #[]
  cf := none
  fields := #[]
  methods := #[]
  instanceTypes := #[]
  staticTypes := #[]
  resolved := #[]
  callSites := []
  init := .initialized
  statics := none
  mirror := none

def pool0 : Array CpInfo := pool [(5, u "<init>"), (0, u "()V"), (1, .class_ 10), (1, u "java/lang/Object")] 113

def k0m0 : Method := { name := "<init>", desc := "()V", sig := { parameters := [], returnType := none }, accessFlags := 1, code := none }
/-- java/lang/Object -/
def k0 : Class := { plain "java/lang/Object" none with
  accessFlags := 33
  interfaces := #[]
  cf := some (fileOf pool0 8 #[] #[{ accessFlags := 1, nameIndex := 5, descriptorIndex := 6, attributes := #[] }] 33 0 #[] #[])
  fields := #[]
  methods := #[k0m0]
  instanceTypes := #[]
  staticTypes := #[]
  resolved := Array.replicate 124 none
  statics := none }

def pool1 : Array CpInfo := pool [(2, .class_ 4), (1, u "java/lang/Object"), (0, u "<init>"), (0, u "()V"), (0, .methodref 8 9), (0, .class_ 10), (0, .nameAndType 11 12), (0, u "com/example/epochlog/epochlog/http/HeadersIndexOfPinLaw"), (0, u "pick"), (0, u "(IIIC)B"), (0, .integer 2147483647), (0, .methodref 8 15), (0, .nameAndType 16 17), (0, u "hit"), (0, u "([BCIII)Z"), (0, .methodref 19 20), (0, .class_ 21), (0, .nameAndType 22 23), (0, u "com/example/epochlog/epochlog/http/Headers"), (0, u "indexOf"), (0, u "([BCII)I"), (2, u "law"), (0, u "(IIIII)Z")] 5

def k1m0 : Method := { name := "<init>", desc := "()V", sig := { parameters := [], returnType := none }, accessFlags := 1, code := none }
def k1c1 : Code := { maxStack := 6, maxLocals := 10, code := code, exceptionTable := #[], attributes := #[] }
def k1m1 : Method := { name := "law", desc := "(IIIII)Z", sig := { parameters := [.int, .int, .int, .int, .int], returnType := some .boolean }, accessFlags := 9, code := some k1c1 }
def k1c2 : Code := { maxStack := 3, maxLocals := 4, code := method_3_code, exceptionTable := #[], attributes := #[] }
def k1m2 : Method := { name := "pick", desc := "(IIIC)B", sig := { parameters := [.int, .int, .int, .char], returnType := some .byte }, accessFlags := 10, code := some k1c2 }
def k1c3 : Code := { maxStack := 2, maxLocals := 5, code := method_4_code, exceptionTable := #[], attributes := #[] }
def k1m3 : Method := { name := "hit", desc := "([BCIII)Z", sig := { parameters := [(.array .byte), .char, .int, .int, .int], returnType := some .boolean }, accessFlags := 10, code := some k1c3 }
/-- com/example/epochlog/epochlog/http/HeadersIndexOfPinLaw -/
def k1 : Class := { plain "com/example/epochlog/epochlog/http/HeadersIndexOfPinLaw" (some 0) with
  accessFlags := 49
  interfaces := #[]
  cf := some (fileOf pool1 8 #[] #[{ accessFlags := 1, nameIndex := 5, descriptorIndex := 6, attributes := #[] }, { accessFlags := 9, nameIndex := 26, descriptorIndex := 27, attributes := #[] }, { accessFlags := 10, nameIndex := 11, descriptorIndex := 12, attributes := #[] }, { accessFlags := 10, nameIndex := 16, descriptorIndex := 17, attributes := #[] }] 49 2 #[] #[])
  fields := #[]
  methods := #[k1m0, k1m1, k1m2, k1m3]
  instanceTypes := #[]
  staticTypes := #[]
  resolved := Array.replicate 33 none
  statics := none }

def pool2 : Array CpInfo := pool [(2, .class_ 4), (1, u "java/lang/Object"), (3, .class_ 10), (1, u "com/example/epochlog/epochlog/http/Headers"), (0, u "byName"), (0, u "Ljava/util/Map;"), (32, .class_ 47), (1, u "com/example/epochlog/epochlog/http/Headers$Framing"), (51, u "indexOf"), (0, u "([BCII)I")] 163

def k2c0 : Code := { maxStack := 2, maxLocals := 5, code := prog_217_method_11_code, exceptionTable := #[], attributes := #[] }
def k2m0 : Method := { name := "indexOf", desc := "([BCII)I", sig := { parameters := [(.array .byte), .char, .int, .int], returnType := some .int }, accessFlags := 8, code := some k2c0 }
/-- com/example/epochlog/epochlog/http/Headers -/
def k2 : Class := { plain "com/example/epochlog/epochlog/http/Headers" (some 0) with
  accessFlags := 48
  interfaces := #[]
  cf := some (fileOf pool2 8 #[.nestMembers #[45]] #[{ accessFlags := 8, nameIndex := 99, descriptorIndex := 100, attributes := #[] }] 48 2 #[] #[{ accessFlags := 18, nameIndex := 11, descriptorIndex := 12, attributes := #[] }])
  fields := #[{ name := "byName", type := (.object "java/util/Map"), accessFlags := 18, slot := 0, constantValue := 0 }]
  methods := #[k2m0]
  instanceTypes := #[(.object "java/util/Map")]
  staticTypes := #[]
  resolved := Array.replicate 264 none
  statics := none }

def pool3 : Array CpInfo := pool [(1, u "java/lang/Cloneable"), (0, .class_ 1), (0, u "java/lang/Object"), (0, .class_ 3)] 3

/-- java/lang/Cloneable -/
def k3 : Class := { plain "java/lang/Cloneable" (some 0) with
  accessFlags := 1537
  interfaces := #[]
  cf := some (fileOf pool3 2 #[] #[] 1537 4 #[] #[])
  fields := #[]
  methods := #[]
  instanceTypes := #[]
  staticTypes := #[]
  resolved := Array.replicate 8 none
  statics := none }

def pool4 : Array CpInfo := pool [(1, u "java/io/Serializable"), (0, .class_ 1), (0, u "java/lang/Object"), (0, .class_ 3)] 3

/-- java/io/Serializable -/
def k4 : Class := { plain "java/io/Serializable" (some 0) with
  accessFlags := 1537
  interfaces := #[]
  cf := some (fileOf pool4 2 #[] #[] 1537 4 #[] #[])
  fields := #[]
  methods := #[]
  instanceTypes := #[]
  staticTypes := #[]
  resolved := Array.replicate 8 none
  statics := none }

/-- the primitive byte -/
def k5 : Class := { plain "byte" none with kind := .primitive 'B', accessFlags := 0x411 }
/-- [B -/
def k6 : Class := { plain "[B" (some 0) with kind := .array 5 .byte, interfaces := #[3, 4], accessFlags := 1041 }

/-- the primitive int -/
def k7 : Class := { plain "int" none with kind := .primitive 'I', accessFlags := 0x411 }
/-- [I -/
def k8 : Class := { plain "[I" (some 0) with kind := .array 7 .int, interfaces := #[3, 4], accessFlags := 1041 }

def heap : Heap := #[]
def classes : Array Class := #[k0, k1, k2, k3, k4, k5, k6, k7, k8]
def interned : List (Array UInt16 × Addr) := []
def slotsUsed : Nat := 0
def theMethod : MethodId := ⟨1, 1⟩
def args0 : Array Value := #[.int 1, .int 2, .int 3, .int 4, .int 5]
def aboutOver (below : List Frame) : State where
  vm := { classes := classes, interned := interned.toArray }
  heap := heap
  slotsUsed := slotsUsed
  threads := #[{ frames := .invoking theMethod args0 :: below }]
def below0 : List Frame := [.native { method := ⟨0, 0⟩, args := #[] }]
def about1 : State := aboutOver below0
def p0 : Program := .bare "" "" ""
def e0 : Env := launch0.env 0 0 0
theorem w_frames : about1.frames = Frame.invoking theMethod args0 :: below0 := rfl
set_option maxRecDepth 65536 in
theorem w_args : argsFit about1.vm theMethod args0 = true := by decide +kernel
set_option maxRecDepth 65536 in
theorem w_heap : heapFits about1 = true := by decide +kernel
set_option maxRecDepth 65536 in
theorem w_runnable : about1.curStatus? = some .runnable := by decide +kernel
set_option maxRecDepth 65536 in
theorem w_alone : about1.alone = true := by decide +kernel
set_option maxRecDepth 65536 in
theorem w_named : about1.methodNamed? x = some theMethod := by decide +kernel
set_option maxRecDepth 65536 in
theorem w_hears : about1.hears theMethod below0 = true := by decide +kernel
set_option maxRecDepth 65536 in
theorem w_ripe : about1.ripe theMethod args0 below0 = true := by decide +kernel
theorem w_running : about1.status = .running := rfl
set_option maxRecDepth 65536 in
theorem w_room : about1.hasRoom e0.platform room_1 = true :=
  launch0.hasRoom_least _ room_1 (by decide +kernel) (by decide +kernel) (by decide +kernel) (by decide +kernel) (by decide +kernel) (by decide +kernel)
theorem allAtoms_all (ts : List Jvm.Cond) (a : Array Jvm.Value) (st : Jvm.State) : (allAtoms ts).before a st = ts.all (fun c => c.before a st) := by
  induction ts with
  | nil => rfl
  | cons c t ih =>
    show (Jvm.Cond.and c (allAtoms t)).before a st = _
    rw [Jvm.Cond.before_and, ih, List.all_cons]
def words1 : List Jvm.Cond := Jvm.Cond.code x code maxLocals ret :: tables_1
/-- a 'code' word, met by the world's own term for the bytes: nothing is compared byte by byte -/
theorem code_word {y : MethodName} {bytes : ByteArray} {mx : Nat} {rt : Option FieldType} {a : Array Value} {s : State} {m : MethodId} {meth : Method} {c : Code} (h1 : s.methodNamed? y = some m) (h2 : s.vm.method? m = some meth) (h3 : meth.code = some c) (h4 : c.code = bytes)
    (h5 : (c.maxLocals == mx && c.exceptionTable.isEmpty && decide (c.maxStack ≤ mostOperands) && decide (meth.sig.returnType = rt) && !meth.locks && decide (parseMethodDescriptor y.desc = some meth.sig)) = true) : (Jvm.Cond.code y bytes mx rt).before a s = true := by
  simp only [Bool.and_eq_true, beq_iff_eq, Bool.not_eq_true', decide_eq_true_eq] at h5
  obtain ⟨⟨⟨⟨⟨g1, g2⟩, g3⟩, g4⟩, g5⟩, g6⟩ := h5
  simp [Cond.before, Cond.holds, Cond.value, h1, h2, h3, h4, g1, g2, g3, g4, g5, g6]
def isCode : Jvm.Cond → Bool
  | .code _ _ _ _ => true
  | _ => false
theorem all_split {L : List Jvm.Cond} {P : Jvm.Cond → Bool} (h1 : L.all (fun c => isCode c || P c) = true) (h2 : ∀ c ∈ L.filter isCode, P c = true) : L.all P = true := by
  refine List.all_eq_true.mpr fun c hc => ?_
  have h := List.all_eq_true.mp h1 c hc
  rcases Bool.eq_false_or_eq_true (isCode c) with hi | hi
  · exact h2 c (List.mem_filter.mpr ⟨hc, hi⟩)
  · simpa [hi] using h
set_option maxRecDepth 65536 in
theorem w_c0 : (Jvm.Cond.code x code maxLocals ret).before args0 about1 = true := code_word (m := ⟨1, 1⟩) (meth := k1m1) (c := k1c1) (by decide +kernel) rfl rfl rfl (by decide +kernel)
set_option maxRecDepth 65536 in
theorem w_c1 : (Jvm.Cond.code ({ cls := "com/example/epochlog/epochlog/http/HeadersIndexOfPinLaw", name := "pick", desc := "(IIIC)B" } : Jvm.MethodName) method_3_code (4 : Nat) (Option.some Jvm.ClassFile.FieldType.byte)).before args0 about1 = true := code_word (m := ⟨1, 2⟩) (meth := k1m2) (c := k1c2) (by decide +kernel) rfl rfl rfl (by decide +kernel)
set_option maxRecDepth 65536 in
theorem w_c2 : (Jvm.Cond.code ({ cls := "com/example/epochlog/epochlog/http/HeadersIndexOfPinLaw", name := "hit", desc := "([BCIII)Z" } : Jvm.MethodName) method_4_code (5 : Nat) (Option.some Jvm.ClassFile.FieldType.boolean)).before args0 about1 = true := code_word (m := ⟨1, 3⟩) (meth := k1m3) (c := k1c3) (by decide +kernel) rfl rfl rfl (by decide +kernel)
set_option maxRecDepth 65536 in
theorem w_c3 : (Jvm.Cond.code ({ cls := "com/example/epochlog/epochlog/http/Headers", name := "indexOf", desc := "([BCII)I" } : Jvm.MethodName) prog_217_method_11_code (5 : Nat) (Option.some Jvm.ClassFile.FieldType.int)).before args0 about1 = true := code_word (m := ⟨2, 0⟩) (meth := k2m0) (c := k2c0) (by decide +kernel) rfl rfl rfl (by decide +kernel)
def codes1 : List Jvm.Cond := [Jvm.Cond.code x code maxLocals ret, Jvm.Cond.code ({ cls := "com/example/epochlog/epochlog/http/HeadersIndexOfPinLaw", name := "pick", desc := "(IIIC)B" } : Jvm.MethodName) method_3_code (4 : Nat) (Option.some Jvm.ClassFile.FieldType.byte), Jvm.Cond.code ({ cls := "com/example/epochlog/epochlog/http/HeadersIndexOfPinLaw", name := "hit", desc := "([BCIII)Z" } : Jvm.MethodName) method_4_code (5 : Nat) (Option.some Jvm.ClassFile.FieldType.boolean), Jvm.Cond.code ({ cls := "com/example/epochlog/epochlog/http/Headers", name := "indexOf", desc := "([BCII)I" } : Jvm.MethodName) prog_217_method_11_code (5 : Nat) (Option.some Jvm.ClassFile.FieldType.int)]
set_option maxRecDepth 65536 in
theorem codes_eq : words1.filter isCode = codes1 := rfl
theorem w_codes : ∀ c ∈ words1.filter isCode, c.before args0 about1 = true := by
  rw [codes_eq]
  intro c hc
  simp only [codes1, List.mem_cons, List.not_mem_nil, or_false] at hc
  rcases hc with rfl | rfl | rfl | rfl
  · exact w_c0
  · exact w_c1
  · exact w_c2
  · exact w_c3
set_option maxRecDepth 65536 in
theorem w_t1 : words1.all (fun c => isCode c || c.before args0 about1) = true := by decide +kernel
theorem w_tables : (allAtoms (Jvm.Cond.code x code maxLocals ret :: tables_1)).before args0 about1 = true := by
  rw [allAtoms_all]
  show words1.all (fun c => c.before args0 about1) = true
  refine all_split ?_ w_codes
  rw [w_t1]
set_option maxRecDepth 65536 in
theorem w_case : (Jvm.Cond.and given_1 narrow_1).before args0 about1 = true := by decide +kernel
theorem w_applies : (headSpec (Jvm.Cond.code x code maxLocals ret :: tables_1) room_1).applies x e0.platform about1 = true :=
  (Spec.applies_iff w_frames).mpr ⟨w_running, w_runnable, w_alone, w_named, w_hears, w_ripe, w_room, w_tables⟩
theorem atStart : AtStart classFile x code maxLocals ret World_1 tables_1 room_1 Calls_1 rest_1 Pre_1 launch0 p0 e0 about1 theMethod args0 below0 :=
  ⟨lists_1, trivial, launch0.admits_env _ _ _, launch0.least_env, fairChoices_fair.cas, fairChoices_fair.clock, w_frames, w_args, w_heap, w_applies, trivial, trivial, w_case⟩
end start1
theorem witness_1 : WitnessClaimed_1 := ⟨start1.p0, start1.e0, start1.about1, start1.theMethod, start1.args0, start1.below0, start1.atStart⟩
end Jvm.Pilot.@@N@@
