import JvmDerived
import JvmDerived.Pilot.@@N@@Statement
import JvmDerived.Pilot.@@N@@Code
set_option linter.unusedVariables false
set_option linter.unusedSimpArgs false
namespace Jvm.RoadKit
open Sem ClassFile Op Lib Jvm.Stand Jvm.Free Jvm.LawKit
section New
variable {p : Program} {l : Launch} {e : Env} {R : Room} {s : State} {m : MethodId} {args : Array Value} {below : List Frame} {meth : Method} {c : Code} {T : State} {locs : List Loc} {cells slots : Nat}
theorem retI (X : Stand p l e R s m args below meth c T locs cells slots) (hx : p.tables.exec = Jvm.exec) {pc : Nat} {Ls : Array Slot} {z : Int32} {rest : List Value} (hret : meth.sig.returnType = some .int) (hd : decode c.code pc = .ok (.ireturn, 1)) {fs : List Frame}
    (hl : ∀ (f : JFrame) (acts : List Action), f.method = m → f.locked = none → f.entered = [] → (doReturn e (T.setTop f) acts (some (.int z))).1 = T.setFrames fs) : Steps p.tables e below (T.setTop (mkF m pc Ls (.int z :: rest))) (T.setFrames fs) := by
  have hm' : T.vm.method? m = some meth := X.method'
  have hn : narrow .int (.int z) = .int z := rfl
  show Steps p.tables e below (T.setTop { method := m, pc := pc, locals := Ls, stack := _ :: rest, locked := none }) _
  jvm_step X.here [X.here.top, hx, hd, hm', hret, hn]
  first | (intro acts; rw [hl _ acts rfl rfl rfl]) | rw [hl _ _ rfl rfl rfl]
  exact Steps.refl _
end New
end Jvm.RoadKit
namespace Jvm.Pilot.@@N@@
open Jvm Jvm.ClassFile Sem Op Lib Jvm.Free Jvm.Stand Jvm.LawKit Jvm.RoadKit Bundle Jvm.Pilot.@@N@@.Jvm.D
section Own
variable {p : Program} {l : Launch} {e : Env} {R : Room} {s : State} {m : MethodId} {args : Array Value} {below : List Frame} {meth : Method} {c : Code} {T : State} {locs : List Loc} {cells slots : Nat} {Z : State} {a0 : Array Value} {h : Heap} {Q : Option Value → Heap → List Loc → Prop} {C N : Nat}
/-- from the state U the run comes to this invocation's end, which returns, and Q holds of the value, the heap and the written places -/
def zq_Go (p : Program) (e : Env) (below : List Frame) (s : State) (Q : Option Value → Heap → List Loc → Prop) (C N : Nat) (U : State) : Prop :=
  ∃ t o, Steps p.tables e below U t ∧ t.status = .running ∧ Ended t below o ∧ ∃ v L, o = .returned v ∧ Q v t.heap L ∧ FrameEnd s o t L C N
theorem zq_go {A B : State} (k : ∀ t, Steps p.tables e below A t → Steps p.tables e below B t) (h : zq_Go p e below s Q C N A) : zq_Go p e below s Q C N B := by
  obtain ⟨t, o, h1, r⟩ := h
  exact ⟨t, o, k t h1, r⟩
theorem zq_out (X : Stand p l e R s m args below meth c T locs cells slots) (hl : meth.locks = false) {v : Option Value} (hv : meth.sig.returnType = none → v = none) {A : State}
    (k : ∀ fs, (∀ (f : JFrame) (acts : List Action), f.method = m → f.locked = none → f.entered = [] → (doReturn e (T.setTop f) acts v).1 = T.setFrames fs) → Steps p.tables e below A (T.setFrames fs)) (hq : Q v T.heap locs) (hc : cells ≤ C) (hs : slots ≤ N) : zq_Go p e below s Q C N A := by
  obtain ⟨fs, hr, hrun, hended, hW, hsame⟩ := X.leave (v := v) hv hl
  exact ⟨_, _, k fs hr, hrun, hended, v, locs, rfl, hq, ⟨_, rfl⟩, hW, hsame.mono hc hs⟩
theorem zq_retN (X : Stand p l e R s m args below meth c T locs cells slots) (hx : p.tables.exec = Jvm.exec) (hl : meth.locks = false) {pc : Nat} {Ls : Array Slot} {z : Int32} {t : FieldType} {rest : List Value} (hret : meth.sig.returnType = some t) (ht : t = .boolean ∨ t = .byte ∨ t = .char ∨ t = .short)
    (hd : decode c.code pc = .ok (.ireturn, 1)) (hq : Q (some (.int (nar t z))) T.heap locs) (hc : cells ≤ C) (hs : slots ≤ N) : zq_Go p e below s Q C N (T.setTop (mkF m pc Ls (.int z :: rest))) :=
  zq_out X hl (fun h => by rw [hret] at h; cases h) (fun fs hr => retN X hx hret ht hd hr) hq hc hs
theorem zq_retI (X : Stand p l e R s m args below meth c T locs cells slots) (hx : p.tables.exec = Jvm.exec) (hl : meth.locks = false) {pc : Nat} {Ls : Array Slot} {z : Int32} {rest : List Value} (hret : meth.sig.returnType = some .int)
    (hd : decode c.code pc = .ok (.ireturn, 1)) (hq : Q (some (.int z)) T.heap locs) (hc : cells ≤ C) (hs : slots ≤ N) : zq_Go p e below s Q C N (T.setTop (mkF m pc Ls (.int z :: rest))) :=
  zq_out X hl (fun h => by rw [hret] at h; cases h) (fun fs hr => retI X hx hret hd hr) hq hc hs
theorem zq_retJ (X : Stand p l e R s m args below meth c T locs cells slots) (hx : p.tables.exec = Jvm.exec) (hl : meth.locks = false) {pc : Nat} {Ls : Array Slot} {z : Int64} (hret : meth.sig.returnType = some .long)
    (hd : decode c.code pc = .ok (.lreturn, 1)) (hq : Q (some (.long z)) T.heap locs) (hc : cells ≤ C) (hs : slots ≤ N) : zq_Go p e below s Q C N (T.setTop (mkF m pc Ls [.long z])) :=
  zq_out X hl (fun h => by rw [hret] at h; cases h) (fun fs hr => X.lreturnOut hx hret hd hr) hq hc hs
theorem zq_retA (X : Stand p l e R s m args below meth c T locs cells slots) (hx : p.tables.exec = Jvm.exec) (hl : meth.locks = false) {pc : Nat} {Ls : Array Slot} {w : Value} {t : FieldType} (hw : w.isRef = true) (hret : meth.sig.returnType = some t) (ht : t.isReference = true)
    (hd : decode c.code pc = .ok (.areturn, 1)) (hq : Q (some w) T.heap locs) (hc : cells ≤ C) (hs : slots ≤ N) : zq_Go p e below s Q C N (T.setTop (mkF m pc Ls [w])) :=
  zq_out X hl (fun h => by rw [hret] at h; cases h) (fun fs hr => X.areturnOut hx hw hret ht hd hr) hq hc hs
theorem zq_ret0 (X : Stand p l e R s m args below meth c T locs cells slots) (hx : p.tables.exec = Jvm.exec) (hl : meth.locks = false) {pc : Nat} {Ls : Array Slot} (hret : meth.sig.returnType = none)
    (hd : decode c.code pc = .ok (.return_, 1)) (hq : Q none T.heap locs) (hc : cells ≤ C) (hs : slots ≤ N) : zq_Go p e below s Q C N (T.setTop (mkF m pc Ls [])) :=
  zq_out X hl (fun _ => rfl) (fun fs hr => X.returnOut hx hret hd hr) hq hc hs
/-- a method's contract, from the heap h0, for the arguments a -/
abbrev zq_Met (l : Launch) (Z : State) (y : MethodName) (bytes : ByteArray) (maxL : Nat) (ret : Option FieldType) (ws : List Jvm.Cond) (rm : Room) (a : Array Value) (h0 : Heap) (Q : Option Value → Heap → List Loc → Prop) : Prop :=
  MetFree l y (head1 (Jvm.Cond.code y bytes maxL ret :: ws) rm) (fun a' U => a' = a ∧ Z.Warmed39 U.vm ∧ U.heap = h0) (fun _ _ _ _ _ => True) (fun _ U o U' => ∃ v L, o = .returned v ∧ Q v U'.heap L ∧ FrameEnd U o U' L rm.cells rm.slots)
theorem zq_body {y : MethodName} {bytes : ByteArray} {maxL : Nat} {ret : Option FieldType} {ws : List Jvm.Cond} {rm : Room} {a : Array Value} {h0 : Heap} (hpl : plainFor y = true)
    (body : ∀ (p : Program) (e : Env) (s : State) (m : MethodId) (below : List Frame) (meth : Method) (c : Code) (s₁ : State), p.tables.exec = Jvm.exec → Z.Warmed39 s.vm → c.code = bytes → c.maxLocals = maxL → meth.sig.returnType = ret → meth.locks = false → s.vm.findClass y.cls = some m.cls → meth.name = y.name → Stand p l e rm s m a below meth c s₁ [] 0 0 → s₁.heap = h0 → zq_Go p e below s Q rm.cells rm.slots (s₁.setTop (entryFrame m a maxL))) :
    zq_Met l Z y bytes maxL ret ws rm a h0 Q := by
  refine MetFree.of_bodySF hpl hisR ?_
  intro p e s m args below meth c s₁ Bd hml0 hP hK
  obtain ⟨rfl, hZ, hh⟩ := hP
  exact body p e s m below meth c s₁ Bd.exec hZ Bd.bytes hml0 Bd.returns Bd.notSynchronized (findClass_of_methodNamed Bd.named) (name_of_methodNamed Bd.named Bd.method).1 (Stand.of_body Bd) (by rw [← hh, Bd.state]; rfl)
/-- a callee that leaves no trace and returns r -/
def zq_pure (r : Value) (h0 : Heap) : Option Value → Heap → List Loc → Prop := fun v h L => v = some r ∧ L = [] ∧ h = h0
theorem zq_callS (X : Stand p l e R s m args below meth c T locs cells slots) (hx : p.tables.exec = Jvm.exec) (hZ : Z.Warmed39 s.vm) {own : String} {index W : Nat} {y : MethodName} {bytes : ByteArray} {maxL : Nat} {ret : Option FieldType} {rm : Room} (hown : s.vm.findClass own = some m.cls)
    (w1 : (Cond.methodLink own index y).before a0 Z = true) (w2 : (Cond.static y).before a0 Z = true) (w3 : (Cond.initialized y.cls).before a0 Z = true) (w4 : (Cond.code y bytes maxL ret).before a0 Z = true) (hy : y.cls ≠ "java/lang/invoke/MethodHandle" ∧ y.cls ≠ "java/lang/invoke/VarHandle") {argsL rest : List Value}
    (hM : zq_Met l Z y bytes maxL ret [] rm argsL.toArray h Q) (eT : T.heap = h) (hf : rm.frames + 1 ≤ R.frames) (hl : W + (maxL + 11) + rm.locals ≤ R.locals) (hcells : cells + rm.cells ≤ R.cells) (hslots : slots + rm.slots ≤ R.slots)
    {g : JFrame} (hg : g.method = m) (hsize : g.locals.size = c.maxLocals) (hlen : ∀ sig, parseMethodDescriptor y.desc = some sig → argsL.length = sig.parameters.length) (hstack : g.stack = argsL.reverse ++ rest) (hW : 2 * g.monitorRoom + (rest.map fun v => v.category).sum ≤ W) (hdg : decode c.code g.pc = .ok (.invokestatic index, 3)) :
    ∃ (v : Option Value) (T' : State) (L : List Loc), Stand p l e R s m args below meth c T' (locs ++ L) (cells + rm.cells) (slots + rm.slots) ∧ Q v T'.heap L ∧ ∀ target, Steps p.tables e below (T'.setTop { g with pc := g.pc + 3, stack := v.toList ++ rest }) target → Steps p.tables e below (T.setTop g) target := by
  obtain ⟨v, vm₁, ⟨T', L', k', n'⟩, -, X', ⟨L, hQ, e1, e2, e3⟩, st⟩ := Jvm.LawKit.callS X hx (y := y) hown (mvT hZ w1) (mvT hZ w2) (mvT hZ w3) (mvT hZ w4) hy (backOf (W := W) hM hZ w4 w3 hf hl) hg hsize hlen hstack hW hdg (fun _ _ => ⟨rfl, eT, hcells, hslots⟩)
  dsimp only [Pt.U, Pt.locs, Pt.cells, Pt.slots] at X' hQ e1 e2 e3 st
  subst e1 e2 e3
  exact ⟨v, T', L, X', hQ, st⟩
theorem zq_callP (X : Stand p l e R s m args below meth c T locs cells slots) (hx : p.tables.exec = Jvm.exec) (hZ : Z.Warmed39 s.vm) {own : String} {index W : Nat} {y : MethodName} {bytes : ByteArray} {maxL : Nat} {ret : Option FieldType} {rm : Room} {r : Value} (hown : s.vm.findClass own = some m.cls)
    (w1 : (Cond.methodLink own index y).before a0 Z = true) (w2 : (Cond.static y).before a0 Z = true) (w3 : (Cond.initialized y.cls).before a0 Z = true) (w4 : (Cond.code y bytes maxL ret).before a0 Z = true) (hy : y.cls ≠ "java/lang/invoke/MethodHandle" ∧ y.cls ≠ "java/lang/invoke/VarHandle") {argsL rest : List Value}
    (hM : zq_Met l Z y bytes maxL ret [] rm argsL.toArray h (zq_pure r h)) (eT : T.heap = h) (hf : rm.frames + 1 ≤ R.frames) (hl : W + (maxL + 11) + rm.locals ≤ R.locals) (hcells : rm.cells = 0) (hslots : rm.slots = 0) (hC : cells ≤ R.cells) (hN : slots ≤ R.slots)
    {g : JFrame} (hg : g.method = m) (hsize : g.locals.size = c.maxLocals) (hlen : ∀ sig, parseMethodDescriptor y.desc = some sig → argsL.length = sig.parameters.length) (hstack : g.stack = argsL.reverse ++ rest) (hW : 2 * g.monitorRoom + (rest.map fun v => v.category).sum ≤ W) (hdg : decode c.code g.pc = .ok (.invokestatic index, 3)) :
    ∃ T' : State, Stand p l e R s m args below meth c T' locs cells slots ∧ T'.heap = h ∧ ∀ target, Steps p.tables e below (T'.setTop { g with pc := g.pc + 3, stack := r :: rest }) target → Steps p.tables e below (T.setTop g) target := by
  obtain ⟨v, T', L, X', ⟨rfl, rfl, q⟩, st⟩ := zq_callS X hx hZ hown w1 w2 w3 w4 hy hM eT hf hl (by rw [hcells]; exact hC) (by rw [hslots]; exact hN) hg hsize hlen hstack hW hdg
  rw [hcells, hslots, List.append_nil] at X'
  exact ⟨T', X', q, st⟩
/-- what the law's own contract says: it returns 1, and wrote to new cells alone -/
def zq_one (n0 : Nat) : Option Value → Heap → List Loc → Prop := fun v _ L => v = some (.int 1) ∧ Fr n0 L
end Own
def zq_u (x k : Int32) : Int32 := (x.toUInt32 >>> (k &&& 31).toUInt32).toInt32
def zq_n4 (a n : Int32) : Int32 := n - ((a.toUInt32 >>> ((1 : Int32) &&& 31).toUInt32).toInt32)
def zq_n3 (a n : Int32) : Int32 := zq_n4 (if a < (4 : Int32) then a else ((a.toUInt32 >>> ((2 : Int32) &&& 31).toUInt32).toInt32)) (if a < (4 : Int32) then n else (n + (-2 : Int32)))
def zq_n2 (a n : Int32) : Int32 := zq_n3 (if a < (16 : Int32) then a else ((a.toUInt32 >>> ((4 : Int32) &&& 31).toUInt32).toInt32)) (if a < (16 : Int32) then n else (n + (-4 : Int32)))
def zq_n1 (a n : Int32) : Int32 := zq_n2 (if a < (256 : Int32) then a else ((a.toUInt32 >>> ((8 : Int32) &&& 31).toUInt32).toInt32)) (if a < (256 : Int32) then n else (n + (-8 : Int32)))
def zq_n0 (a n : Int32) : Int32 := zq_n1 (if a < (65536 : Int32) then a else ((a.toUInt32 >>> ((16 : Int32) &&& 31).toUInt32).toInt32)) (if a < (65536 : Int32) then n else (n + (-16 : Int32)))
def zq_nlz (x : Int32) : Int32 := if (0 : Int32) < x then zq_n0 x 31 else if x = (0 : Int32) then 32 else 0
def zq_slot (h n : Int32) : Int32 := zq_u (h * (-1640531527 : Int32)) (zq_nlz (n - (1 : Int32)))
theorem zq_low {y : Int32} {k : Nat} (h0 : 0 ≤ y.toInt) (h1 : y.toInt < k) (hk : k ≤ 2147483648) : ∃ n : Fin k, y = Int32.ofNat n := by
  have q : ¬ y < 0 := by rw [Int32.lt_iff_toInt_lt]; simp only [Int32.reduceToInt]; omega
  refine ⟨⟨y.toNatClampNeg, by simp only [Int32.toNatClampNeg]; omega⟩, (back32 q).1.symm⟩
def zq_K (kk : Int32) : Int32 := ((1 : Int32) + ((kk &&& (2147483647 : Int32)) - ((kk &&& (2147483647 : Int32)) / (30 : Int32)) * (30 : Int32)))
theorem zq_kfin (kk : Int32) : ∃ n : Fin 30, zq_K kk = Int32.ofNat (n + 1) := by
  have e1 := c_mask kk 2147483647 31 (by decide) (by decide)
  generalize hm : kk &&& (2147483647 : Int32) = m at e1
  have m0 : 0 ≤ m.toInt := by rw [e1]; exact Int.emod_nonneg _ (by decide)
  have e2 := (c_idiv m 30 30 (by decide) (by decide)).1 m0
  have e3 := c_imul (m / 30) 30
  have e4 := c_isub m (m / 30 * 30)
  have e5 := c_iadd 1 (m - m / 30 * 30)
  have r1 := rng32 m
  have r2 := rng32 (m - m / 30 * 30)
  have r3 := rng32 (m / 30 * 30)
  have r4 := rng32 (1 + (m - m / 30 * 30))
  have q : zq_K kk = 1 + (m - m / 30 * 30) := by unfold zq_K; rw [hm]
  have s30 : (30 : Int32).toInt = 30 := by decide
  have s1 : (1 : Int32).toInt = 1 := by decide
  rw [s30] at e3
  rw [s1] at e5
  obtain ⟨n, hn⟩ := zq_low (y := m - m / 30 * 30) (k := 30) (by omega) (by omega) (by decide)
  refine ⟨n, ?_⟩
  rw [q, hn]
  clear hn
  revert n
  decide +kernel
theorem zq_tab : ∀ n : Fin 30, zq_nlz (((1 : Int32) <<< ((Int32.ofNat (n + 1)) &&& 31)) - (1 : Int32)) = (32 : Int32) - Int32.ofNat (n + 1) ∧ ((32 : Int32) - Int32.ofNat (n + 1)).toBitVec.toNat % 32 = 31 - n ∧ ((32 : Int32) - Int32.ofNat (n + 1)).toBitVec.toNat % 64 = 31 - n ∧
    ((1 : Int32) <<< ((Int32.ofNat (n + 1)) &&& 31)).toInt = (2 ^ (n.val + 1) : Nat) ∧ 2 ^ (n.val + 1) * 2 ^ (31 - n.val) = 4294967296 ∧ 2 ^ (n.val + 1) ≤ 1073741824 ∧ 0 < 31 - n.val := by decide +kernel
def zq_size (K : Int32) : Int32 := ((1 : Int32) <<< (K &&& 31))
def zq_exp (h K : Int32) : Int32 := ((((h.toInt64) * (2654435769 : Int64)) &&& (4294967295 : Int64)).toUInt64 >>> (((32 : Int32) - K) &&& 0x3f).toInt64.toUInt64).toInt64.toInt32
theorem zq_cong (p q h : Int) (a4 : (p - h * 2654435769) % 18446744073709551616 = 0) (a6 : (q - h * -1640531527) % 4294967296 = 0) : p % 4294967296 = q % 4294967296 := by
  rw [Int.emod_eq_emod_iff_emod_sub_eq_zero]; omega
theorem zq_fin (r L x D SZ : Int) (a1 : r = D) (a2 : L = D) (a7 : (x - L) % 4294967296 = 0) (a8 : -2147483648 ≤ x ∧ x < 2147483648) (D0 : 0 ≤ D) (D1 : D < SZ) (t6 : SZ ≤ 1073741824) : r = x ∧ ¬ r < 0 ∧ r < SZ := by
  omega
theorem zq_law (h kk : Int32) : zq_slot h (zq_size (zq_K kk)) = zq_exp h (zq_K kk) ∧ ¬ zq_slot h (zq_size (zq_K kk)) < 0 ∧ zq_slot h (zq_size (zq_K kk)) < zq_size (zq_K kk) := by
  obtain ⟨n, hn⟩ := zq_kfin kk
  rw [hn]
  obtain ⟨t1, t2, t3, t4, t5, t6, t7⟩ := zq_tab n
  generalize Int32.ofNat (n + 1) = K at *
  have a1 : (zq_slot h (zq_size K)).toInt = ((h * (-1640531527 : Int32)).toInt % 4294967296) / (2 ^ (31 - n.val) : Nat) := by
    unfold zq_slot zq_size zq_u
    rw [t1]
    exact c_iushr _ _ _ t2 t7
  have a2 : (((((h.toInt64) * (2654435769 : Int64)) &&& (4294967295 : Int64)).toUInt64 >>> (((32 : Int32) - K) &&& 0x3f).toInt64.toUInt64).toInt64).toInt = ((((h.toInt64) * (2654435769 : Int64)) &&& (4294967295 : Int64)).toInt % 18446744073709551616) / (2 ^ (31 - n.val) : Nat) := c_lushr _ _ _ t3 t7
  have a3 := c_maskL (h.toInt64 * (2654435769 : Int64)) 4294967295 32 (by decide) (by decide)
  have a4 := c_lmul h.toInt64 (2654435769 : Int64)
  have a5 := c_i2l h
  have a6 := c_imul h (-1640531527 : Int32)
  have a7 := c_l2i (((((h.toInt64) * (2654435769 : Int64)) &&& (4294967295 : Int64)).toUInt64 >>> (((32 : Int32) - K) &&& 0x3f).toInt64.toUInt64).toInt64)
  have a8 := rng32 (zq_exp h K)
  have s1 : (2654435769 : Int64).toInt = 2654435769 := by decide +kernel
  have s2 : (-1640531527 : Int32).toInt = -1640531527 := by decide +kernel
  have s3 : (0 : Int32).toInt = 0 := by decide
  have s4 : (zq_size K).toInt = (2 ^ (n.val + 1) : Nat) := t4
  change ((zq_exp h K).toInt - _) % 4294967296 = 0 at a7
  rw [s1, a5] at a4
  rw [s2] at a6
  have e1 : (h.toInt64 * (2654435769 : Int64)).toInt % 4294967296 = (h * (-1640531527 : Int32)).toInt % 4294967296 := by
    exact zq_cong _ _ _ a4 a6
  rw [show ((2 ^ 32 : Nat) : Int) = 4294967296 from rfl, e1] at a3
  generalize (h * (-1640531527 : Int32)).toInt % 4294967296 = A at a1 a3 e1
  have A0 : 0 ≤ A ∧ A < 4294967296 := ⟨by rw [← e1]; exact Int.emod_nonneg _ (by decide), by rw [← e1]; exact Int.emod_lt_of_pos _ (by decide)⟩
  rw [a3, Int.emod_eq_of_lt A0.1 (Int.lt_trans A0.2 (by decide))] at a2
  have P1 : 0 < 2 ^ (31 - n.val) := Nat.pow_pos (by decide)
  generalize 2 ^ (31 - n.val) = P at a1 a2 t5 P1
  generalize 2 ^ (n.val + 1) = SZ at t4 t5 t6 s4
  have P0 : (0 : Int) < (P : Int) := Int.natCast_pos.mpr P1
  have D0 : 0 ≤ A / (P : Int) := Int.ediv_nonneg A0.1 (Int.le_of_lt P0)
  have D1 : A / (P : Int) < (SZ : Int) := Int.ediv_lt_of_lt_mul P0 (by rw [← Int.natCast_mul, t5]; exact A0.2)
  generalize A / (P : Int) = D at a1 a2 D0 D1
  have F := zq_fin _ _ _ D (SZ : Int) a1 a2 a7 a8 D0 D1 (Int.ofNat_le.mpr t6)
  refine ⟨Int32.toInt_inj.mp F.1, ?_, ?_⟩
  · rw [Int32.lt_iff_toInt_lt, s3]; exact F.2.1
  · rw [Int32.lt_iff_toInt_lt, s4]; exact F.2.2
theorem zq_pn0 : plainName "java/lang/Integer" = true := by first | (simp [plainName, overriddenIn]; done) | decide +kernel
theorem zq_d2_0 : decode jdk_33_method_47_code 0 = .ok (.iload_n 0, 1) := by decide +kernel
theorem zq_d2_1 : decode jdk_33_method_47_code 1 = .ok (.ifCond .gt 14, 3) := by decide +kernel
theorem zq_d2_4 : decode jdk_33_method_47_code 4 = .ok (.iload_n 0, 1) := by decide +kernel
theorem zq_d2_5 : decode jdk_33_method_47_code 5 = .ok (.ifCond .ne 8, 3) := by decide +kernel
theorem zq_d2_8 : decode jdk_33_method_47_code 8 = .ok (.bipush 32, 2) := by decide +kernel
theorem zq_d2_10 : decode jdk_33_method_47_code 10 = .ok (.goto 4, 3) := by decide +kernel
theorem zq_d2_13 : decode jdk_33_method_47_code 13 = .ok (.iconst 0, 1) := by decide +kernel
theorem zq_d2_14 : decode jdk_33_method_47_code 14 = .ok (.ireturn, 1) := by decide +kernel
theorem zq_d2_15 : decode jdk_33_method_47_code 15 = .ok (.bipush 31, 2) := by decide +kernel
theorem zq_d2_17 : decode jdk_33_method_47_code 17 = .ok (.istore_n 1, 1) := by decide +kernel
theorem zq_d2_18 : decode jdk_33_method_47_code 18 = .ok (.iload_n 0, 1) := by decide +kernel
theorem zq_d2_19 : decode jdk_33_method_47_code 19 = .ok (.ldc_w 264, 3) := by decide +kernel
theorem zq_d2_22 : decode jdk_33_method_47_code 22 = .ok (.if_icmp .lt 11, 3) := by decide +kernel
theorem zq_d2_25 : decode jdk_33_method_47_code 25 = .ok (.iinc 1 (-16), 3) := by decide +kernel
theorem zq_d2_28 : decode jdk_33_method_47_code 28 = .ok (.iload_n 0, 1) := by decide +kernel
theorem zq_d2_29 : decode jdk_33_method_47_code 29 = .ok (.bipush 16, 2) := by decide +kernel
theorem zq_d2_31 : decode jdk_33_method_47_code 31 = .ok (.iushr, 1) := by decide +kernel
theorem zq_d2_32 : decode jdk_33_method_47_code 32 = .ok (.istore_n 0, 1) := by decide +kernel
theorem zq_d2_33 : decode jdk_33_method_47_code 33 = .ok (.iload_n 0, 1) := by decide +kernel
theorem zq_d2_34 : decode jdk_33_method_47_code 34 = .ok (.sipush 256, 3) := by decide +kernel
theorem zq_d2_37 : decode jdk_33_method_47_code 37 = .ok (.if_icmp .lt 11, 3) := by decide +kernel
theorem zq_d2_40 : decode jdk_33_method_47_code 40 = .ok (.iinc 1 (-8), 3) := by decide +kernel
theorem zq_d2_43 : decode jdk_33_method_47_code 43 = .ok (.iload_n 0, 1) := by decide +kernel
theorem zq_d2_44 : decode jdk_33_method_47_code 44 = .ok (.bipush 8, 2) := by decide +kernel
theorem zq_d2_46 : decode jdk_33_method_47_code 46 = .ok (.iushr, 1) := by decide +kernel
theorem zq_d2_47 : decode jdk_33_method_47_code 47 = .ok (.istore_n 0, 1) := by decide +kernel
theorem zq_d2_48 : decode jdk_33_method_47_code 48 = .ok (.iload_n 0, 1) := by decide +kernel
theorem zq_d2_49 : decode jdk_33_method_47_code 49 = .ok (.bipush 16, 2) := by decide +kernel
theorem zq_d2_51 : decode jdk_33_method_47_code 51 = .ok (.if_icmp .lt 10, 3) := by decide +kernel
theorem zq_d2_54 : decode jdk_33_method_47_code 54 = .ok (.iinc 1 (-4), 3) := by decide +kernel
theorem zq_d2_57 : decode jdk_33_method_47_code 57 = .ok (.iload_n 0, 1) := by decide +kernel
theorem zq_d2_58 : decode jdk_33_method_47_code 58 = .ok (.iconst 4, 1) := by decide +kernel
theorem zq_d2_59 : decode jdk_33_method_47_code 59 = .ok (.iushr, 1) := by decide +kernel
theorem zq_d2_60 : decode jdk_33_method_47_code 60 = .ok (.istore_n 0, 1) := by decide +kernel
theorem zq_d2_61 : decode jdk_33_method_47_code 61 = .ok (.iload_n 0, 1) := by decide +kernel
theorem zq_d2_62 : decode jdk_33_method_47_code 62 = .ok (.iconst 4, 1) := by decide +kernel
theorem zq_d2_63 : decode jdk_33_method_47_code 63 = .ok (.if_icmp .lt 10, 3) := by decide +kernel
theorem zq_d2_66 : decode jdk_33_method_47_code 66 = .ok (.iinc 1 (-2), 3) := by decide +kernel
theorem zq_d2_69 : decode jdk_33_method_47_code 69 = .ok (.iload_n 0, 1) := by decide +kernel
theorem zq_d2_70 : decode jdk_33_method_47_code 70 = .ok (.iconst 2, 1) := by decide +kernel
theorem zq_d2_71 : decode jdk_33_method_47_code 71 = .ok (.iushr, 1) := by decide +kernel
theorem zq_d2_72 : decode jdk_33_method_47_code 72 = .ok (.istore_n 0, 1) := by decide +kernel
theorem zq_d2_73 : decode jdk_33_method_47_code 73 = .ok (.iload_n 1, 1) := by decide +kernel
theorem zq_d2_74 : decode jdk_33_method_47_code 74 = .ok (.iload_n 0, 1) := by decide +kernel
theorem zq_d2_75 : decode jdk_33_method_47_code 75 = .ok (.iconst 1, 1) := by decide +kernel
theorem zq_d2_76 : decode jdk_33_method_47_code 76 = .ok (.iushr, 1) := by decide +kernel
theorem zq_d2_77 : decode jdk_33_method_47_code 77 = .ok (.isub, 1) := by decide +kernel
theorem zq_d2_78 : decode jdk_33_method_47_code 78 = .ok (.ireturn, 1) := by decide +kernel
theorem zq_ef2 (m : MethodId) (x0 : Int32) : entryFrame m #[(.int x0)] 2 = mkF m 0 #[.val (.int x0), .unset] [] := by first | (simp [entryFrame, mkF, argsToLocals, Value.category]; done) | rfl
set_option maxRecDepth 65536 in
set_option maxHeartbeats 40000000 in
theorem zq_rmN (l : Launch) (Z : State) (a0 : Array Value) (hw : ∀ d ∈ tables_1, d.before a0 Z = true) (ws : List Jvm.Cond) (x0 : Int32) (h0 : Heap) :
    zq_Met l Z (⟨"java/lang/Integer", "numberOfLeadingZeros", "(I)I"⟩ : MethodName) jdk_33_method_47_code 2 (some .int) ws ({ frames := 0, cells := 0, slots := 0, locals := 0 } : Room) #[(.int x0)] h0 (zq_pure (.int (zq_nlz x0)) h0) := by
  refine zq_body (plainFor_of_name zq_pn0) ?_
  intro p e s m below meth c s₁ hx hZ hby hml hret hlk hown hnm X0 e0
  refine zq_go (fun _ kq => castTop (zq_ef2 m x0) kq) ?_
  show zq_Go p e below s _ _ _ (s₁.setTop (mkF m 0 #[.val (.int x0), .unset] []))
  refine zq_go (fun _ kq => XS.iloadN X0.here hx rfl (hb hby zq_d2_0) rfl kq) ?_
  show zq_Go p e below s _ _ _ (s₁.setTop (mkF m 1 #[.val (.int x0), .unset] [(.int x0)]))
  by_cases hc1 : (0 : Int32) < x0
  ·
    refine zq_go (fun _ kq => XS.ifYes X0.here hx rfl (pc0 := 1) (pc' := 15) rfl (hb hby zq_d2_1) rfl ((if0 _ _).trans (tlt hc1).2.2.1) (by decide) (by decide) kq) ?_
    show zq_Go p e below s _ _ _ (s₁.setTop (mkF m 15 #[.val (.int x0), .unset] []))
    refine zq_go (fun _ kq => XS.bipush X0.here hx rfl (hb hby zq_d2_15) kq) ?_
    show zq_Go p e below s _ _ _ (s₁.setTop (mkF m 17 #[.val (.int x0), .unset] [(.int (31 : Int32))]))
    refine zq_go (fun _ kq => XS.istoreN X0.here hx rfl (hb hby zq_d2_17) rfl (l' := #[.val (.int x0), .val (.int (31 : Int32))]) rfl kq) ?_
    show zq_Go p e below s _ _ _ (s₁.setTop (mkF m 18 #[.val (.int x0), .val (.int (31 : Int32))] []))
    refine zq_go (fun _ kq => XS.iloadN X0.here hx rfl (hb hby zq_d2_18) rfl kq) ?_
    show zq_Go p e below s _ _ _ (s₁.setTop (mkF m 19 #[.val (.int x0), .val (.int (31 : Int32))] [(.int x0)]))
    refine zq_go (X0.ldcwInt hx hown (mvT hZ (hw _ (List.mem_of_getElem? (i := 10) rfl))) (g := (mkF m 19 #[.val (.int x0), .val (.int (31 : Int32))] [(.int x0)])) rfl (hb hby zq_d2_19)) ?_
    show zq_Go p e below s _ _ _ (s₁.setTop (mkF m 22 #[.val (.int x0), .val (.int (31 : Int32))] [(.int (65536 : Int32)), (.int x0)]))
    obtain ⟨v22_0, hv22_0⟩ : ∃ z : Int32, z = (if x0 < (65536 : Int32) then x0 else ((x0.toUInt32 >>> ((16 : Int32) &&& 31).toUInt32).toInt32)) := ⟨_, rfl⟩
    obtain ⟨v22_1, hv22_1⟩ : ∃ z : Int32, z = (if x0 < (65536 : Int32) then (31 : Int32) else ((31 : Int32) + (-16 : Int32))) := ⟨_, rfl⟩
    have J22 : ∀ (T2_33j1 : State), Stand p l e ({ frames := 0, cells := 0, slots := 0, locals := 0 } : Room) s m #[(.int x0)] below meth c T2_33j1 [] 0 0 → T2_33j1.heap = h0 → zq_Go p e below s (zq_pure (.int (zq_nlz x0)) h0) ({ frames := 0, cells := 0, slots := 0, locals := 0 } : Room).cells ({ frames := 0, cells := 0, slots := 0, locals := 0 } : Room).slots (T2_33j1.setTop (mkF m 33 #[.val (.int v22_0), .val (.int v22_1)] [])) := by
      intro T2_33j1 X2_33j1 e2_33j1
      show zq_Go p e below s _ _ _ (T2_33j1.setTop (mkF m 33 #[.val (.int v22_0), .val (.int v22_1)] []))
      refine zq_go (fun _ kq => XS.iloadN X2_33j1.here hx rfl (hb hby zq_d2_33) rfl kq) ?_
      show zq_Go p e below s _ _ _ (T2_33j1.setTop (mkF m 34 #[.val (.int v22_0), .val (.int v22_1)] [(.int v22_0)]))
      refine zq_go (fun _ kq => XS.sipush X2_33j1.here hx rfl (hb hby zq_d2_34) kq) ?_
      show zq_Go p e below s _ _ _ (T2_33j1.setTop (mkF m 37 #[.val (.int v22_0), .val (.int v22_1)] [(.int (256 : Int32)), (.int v22_0)]))
      obtain ⟨v37_0, hv37_0⟩ : ∃ z : Int32, z = (if v22_0 < (256 : Int32) then v22_0 else ((v22_0.toUInt32 >>> ((8 : Int32) &&& 31).toUInt32).toInt32)) := ⟨_, rfl⟩
      obtain ⟨v37_1, hv37_1⟩ : ∃ z : Int32, z = (if v22_0 < (256 : Int32) then v22_1 else (v22_1 + (-8 : Int32))) := ⟨_, rfl⟩
      have J37 : ∀ (T2_48j2 : State), Stand p l e ({ frames := 0, cells := 0, slots := 0, locals := 0 } : Room) s m #[(.int x0)] below meth c T2_48j2 [] 0 0 → T2_48j2.heap = h0 → zq_Go p e below s (zq_pure (.int (zq_nlz x0)) h0) ({ frames := 0, cells := 0, slots := 0, locals := 0 } : Room).cells ({ frames := 0, cells := 0, slots := 0, locals := 0 } : Room).slots (T2_48j2.setTop (mkF m 48 #[.val (.int v37_0), .val (.int v37_1)] [])) := by
        intro T2_48j2 X2_48j2 e2_48j2
        show zq_Go p e below s _ _ _ (T2_48j2.setTop (mkF m 48 #[.val (.int v37_0), .val (.int v37_1)] []))
        refine zq_go (fun _ kq => XS.iloadN X2_48j2.here hx rfl (hb hby zq_d2_48) rfl kq) ?_
        show zq_Go p e below s _ _ _ (T2_48j2.setTop (mkF m 49 #[.val (.int v37_0), .val (.int v37_1)] [(.int v37_0)]))
        refine zq_go (fun _ kq => XS.bipush X2_48j2.here hx rfl (hb hby zq_d2_49) kq) ?_
        show zq_Go p e below s _ _ _ (T2_48j2.setTop (mkF m 51 #[.val (.int v37_0), .val (.int v37_1)] [(.int (16 : Int32)), (.int v37_0)]))
        obtain ⟨v51_0, hv51_0⟩ : ∃ z : Int32, z = (if v37_0 < (16 : Int32) then v37_0 else ((v37_0.toUInt32 >>> ((4 : Int32) &&& 31).toUInt32).toInt32)) := ⟨_, rfl⟩
        obtain ⟨v51_1, hv51_1⟩ : ∃ z : Int32, z = (if v37_0 < (16 : Int32) then v37_1 else (v37_1 + (-4 : Int32))) := ⟨_, rfl⟩
        have J51 : ∀ (T2_61j3 : State), Stand p l e ({ frames := 0, cells := 0, slots := 0, locals := 0 } : Room) s m #[(.int x0)] below meth c T2_61j3 [] 0 0 → T2_61j3.heap = h0 → zq_Go p e below s (zq_pure (.int (zq_nlz x0)) h0) ({ frames := 0, cells := 0, slots := 0, locals := 0 } : Room).cells ({ frames := 0, cells := 0, slots := 0, locals := 0 } : Room).slots (T2_61j3.setTop (mkF m 61 #[.val (.int v51_0), .val (.int v51_1)] [])) := by
          intro T2_61j3 X2_61j3 e2_61j3
          show zq_Go p e below s _ _ _ (T2_61j3.setTop (mkF m 61 #[.val (.int v51_0), .val (.int v51_1)] []))
          refine zq_go (fun _ kq => XS.iloadN X2_61j3.here hx rfl (hb hby zq_d2_61) rfl kq) ?_
          show zq_Go p e below s _ _ _ (T2_61j3.setTop (mkF m 62 #[.val (.int v51_0), .val (.int v51_1)] [(.int v51_0)]))
          refine zq_go (fun _ kq => XS.iconst X2_61j3.here hx rfl (hb hby zq_d2_62) kq) ?_
          show zq_Go p e below s _ _ _ (T2_61j3.setTop (mkF m 63 #[.val (.int v51_0), .val (.int v51_1)] [(.int (4 : Int32)), (.int v51_0)]))
          obtain ⟨v63_0, hv63_0⟩ : ∃ z : Int32, z = (if v51_0 < (4 : Int32) then v51_0 else ((v51_0.toUInt32 >>> ((2 : Int32) &&& 31).toUInt32).toInt32)) := ⟨_, rfl⟩
          obtain ⟨v63_1, hv63_1⟩ : ∃ z : Int32, z = (if v51_0 < (4 : Int32) then v51_1 else (v51_1 + (-2 : Int32))) := ⟨_, rfl⟩
          have J63 : ∀ (T2_73j4 : State), Stand p l e ({ frames := 0, cells := 0, slots := 0, locals := 0 } : Room) s m #[(.int x0)] below meth c T2_73j4 [] 0 0 → T2_73j4.heap = h0 → zq_Go p e below s (zq_pure (.int (zq_nlz x0)) h0) ({ frames := 0, cells := 0, slots := 0, locals := 0 } : Room).cells ({ frames := 0, cells := 0, slots := 0, locals := 0 } : Room).slots (T2_73j4.setTop (mkF m 73 #[.val (.int v63_0), .val (.int v63_1)] [])) := by
            intro T2_73j4 X2_73j4 e2_73j4
            show zq_Go p e below s _ _ _ (T2_73j4.setTop (mkF m 73 #[.val (.int v63_0), .val (.int v63_1)] []))
            refine zq_go (fun _ kq => XS.iloadN X2_73j4.here hx rfl (hb hby zq_d2_73) rfl kq) ?_
            show zq_Go p e below s _ _ _ (T2_73j4.setTop (mkF m 74 #[.val (.int v63_0), .val (.int v63_1)] [(.int v63_1)]))
            refine zq_go (fun _ kq => XS.iloadN X2_73j4.here hx rfl (hb hby zq_d2_74) rfl kq) ?_
            show zq_Go p e below s _ _ _ (T2_73j4.setTop (mkF m 75 #[.val (.int v63_0), .val (.int v63_1)] [(.int v63_0), (.int v63_1)]))
            refine zq_go (fun _ kq => XS.iconst X2_73j4.here hx rfl (hb hby zq_d2_75) kq) ?_
            show zq_Go p e below s _ _ _ (T2_73j4.setTop (mkF m 76 #[.val (.int v63_0), .val (.int v63_1)] [(.int (1 : Int32)), (.int v63_0), (.int v63_1)]))
            refine zq_go (fun _ kq => XS.iushr X2_73j4.here hx rfl (hb hby zq_d2_76) rfl kq) ?_
            show zq_Go p e below s _ _ _ (T2_73j4.setTop (mkF m 77 #[.val (.int v63_0), .val (.int v63_1)] [(.int ((v63_0.toUInt32 >>> ((1 : Int32) &&& 31).toUInt32).toInt32)), (.int v63_1)]))
            refine zq_go (fun _ kq => XS.isub X2_73j4.here hx rfl (hb hby zq_d2_77) rfl kq) ?_
            show zq_Go p e below s _ _ _ (T2_73j4.setTop (mkF m 78 #[.val (.int v63_0), .val (.int v63_1)] [(.int (v63_1 - ((v63_0.toUInt32 >>> ((1 : Int32) &&& 31).toUInt32).toInt32)))]))
            exact zq_retI X2_73j4 hx hlk hret (hb hby zq_d2_78) ⟨by unfold zq_nlz; rw [if_pos hc1]; unfold zq_n0; rw [← hv22_0, ← hv22_1]; unfold zq_n1; rw [← hv37_0, ← hv37_1]; unfold zq_n2; rw [← hv51_0, ← hv51_1]; unfold zq_n3; rw [← hv63_0, ← hv63_1]; rfl, rfl, e2_73j4⟩ (by decide) (by decide)
          by_cases hc63 : v51_0 < (4 : Int32)
          ·
            rw [if_pos hc63] at hv63_0
            rw [if_pos hc63] at hv63_1
            rw [hv63_0, hv63_1] at J63
            refine zq_go (fun _ kq => XS.icmpYes X2_61j3.here hx rfl (pc0 := 63) (pc' := 73) rfl (hb hby zq_d2_63) rfl (tlt hc63).1 (by decide) (by decide) kq) ?_
            exact J63 _ X2_61j3 e2_61j3
          rw [if_neg hc63] at hv63_0
          rw [if_neg hc63] at hv63_1
          rw [hv63_0, hv63_1] at J63
          refine zq_go (fun _ kq => XS.icmpNo X2_61j3.here hx rfl (hb hby zq_d2_63) rfl (flt hc63).1 kq) ?_
          show zq_Go p e below s _ _ _ (T2_61j3.setTop (mkF m 66 #[.val (.int v51_0), .val (.int v51_1)] []))
          refine zq_go (fun _ kq => XS.iinc X2_61j3.here hx rfl (hb hby zq_d2_66) rfl (l' := #[.val (.int v51_0), .val (.int (v51_1 + (-2 : Int32)))]) rfl kq) ?_
          show zq_Go p e below s _ _ _ (T2_61j3.setTop (mkF m 69 #[.val (.int v51_0), .val (.int (v51_1 + (-2 : Int32)))] []))
          refine zq_go (fun _ kq => XS.iloadN X2_61j3.here hx rfl (hb hby zq_d2_69) rfl kq) ?_
          show zq_Go p e below s _ _ _ (T2_61j3.setTop (mkF m 70 #[.val (.int v51_0), .val (.int (v51_1 + (-2 : Int32)))] [(.int v51_0)]))
          refine zq_go (fun _ kq => XS.iconst X2_61j3.here hx rfl (hb hby zq_d2_70) kq) ?_
          show zq_Go p e below s _ _ _ (T2_61j3.setTop (mkF m 71 #[.val (.int v51_0), .val (.int (v51_1 + (-2 : Int32)))] [(.int (2 : Int32)), (.int v51_0)]))
          refine zq_go (fun _ kq => XS.iushr X2_61j3.here hx rfl (hb hby zq_d2_71) rfl kq) ?_
          show zq_Go p e below s _ _ _ (T2_61j3.setTop (mkF m 72 #[.val (.int v51_0), .val (.int (v51_1 + (-2 : Int32)))] [(.int ((v51_0.toUInt32 >>> ((2 : Int32) &&& 31).toUInt32).toInt32))]))
          refine zq_go (fun _ kq => XS.istoreN X2_61j3.here hx rfl (hb hby zq_d2_72) rfl (l' := #[.val (.int ((v51_0.toUInt32 >>> ((2 : Int32) &&& 31).toUInt32).toInt32)), .val (.int (v51_1 + (-2 : Int32)))]) rfl kq) ?_
          exact J63 _ X2_61j3 e2_61j3
        by_cases hc51 : v37_0 < (16 : Int32)
        ·
          rw [if_pos hc51] at hv51_0
          rw [if_pos hc51] at hv51_1
          rw [hv51_0, hv51_1] at J51
          refine zq_go (fun _ kq => XS.icmpYes X2_48j2.here hx rfl (pc0 := 51) (pc' := 61) rfl (hb hby zq_d2_51) rfl (tlt hc51).1 (by decide) (by decide) kq) ?_
          exact J51 _ X2_48j2 e2_48j2
        rw [if_neg hc51] at hv51_0
        rw [if_neg hc51] at hv51_1
        rw [hv51_0, hv51_1] at J51
        refine zq_go (fun _ kq => XS.icmpNo X2_48j2.here hx rfl (hb hby zq_d2_51) rfl (flt hc51).1 kq) ?_
        show zq_Go p e below s _ _ _ (T2_48j2.setTop (mkF m 54 #[.val (.int v37_0), .val (.int v37_1)] []))
        refine zq_go (fun _ kq => XS.iinc X2_48j2.here hx rfl (hb hby zq_d2_54) rfl (l' := #[.val (.int v37_0), .val (.int (v37_1 + (-4 : Int32)))]) rfl kq) ?_
        show zq_Go p e below s _ _ _ (T2_48j2.setTop (mkF m 57 #[.val (.int v37_0), .val (.int (v37_1 + (-4 : Int32)))] []))
        refine zq_go (fun _ kq => XS.iloadN X2_48j2.here hx rfl (hb hby zq_d2_57) rfl kq) ?_
        show zq_Go p e below s _ _ _ (T2_48j2.setTop (mkF m 58 #[.val (.int v37_0), .val (.int (v37_1 + (-4 : Int32)))] [(.int v37_0)]))
        refine zq_go (fun _ kq => XS.iconst X2_48j2.here hx rfl (hb hby zq_d2_58) kq) ?_
        show zq_Go p e below s _ _ _ (T2_48j2.setTop (mkF m 59 #[.val (.int v37_0), .val (.int (v37_1 + (-4 : Int32)))] [(.int (4 : Int32)), (.int v37_0)]))
        refine zq_go (fun _ kq => XS.iushr X2_48j2.here hx rfl (hb hby zq_d2_59) rfl kq) ?_
        show zq_Go p e below s _ _ _ (T2_48j2.setTop (mkF m 60 #[.val (.int v37_0), .val (.int (v37_1 + (-4 : Int32)))] [(.int ((v37_0.toUInt32 >>> ((4 : Int32) &&& 31).toUInt32).toInt32))]))
        refine zq_go (fun _ kq => XS.istoreN X2_48j2.here hx rfl (hb hby zq_d2_60) rfl (l' := #[.val (.int ((v37_0.toUInt32 >>> ((4 : Int32) &&& 31).toUInt32).toInt32)), .val (.int (v37_1 + (-4 : Int32)))]) rfl kq) ?_
        exact J51 _ X2_48j2 e2_48j2
      by_cases hc37 : v22_0 < (256 : Int32)
      ·
        rw [if_pos hc37] at hv37_0
        rw [if_pos hc37] at hv37_1
        rw [hv37_0, hv37_1] at J37
        refine zq_go (fun _ kq => XS.icmpYes X2_33j1.here hx rfl (pc0 := 37) (pc' := 48) rfl (hb hby zq_d2_37) rfl (tlt hc37).1 (by decide) (by decide) kq) ?_
        exact J37 _ X2_33j1 e2_33j1
      rw [if_neg hc37] at hv37_0
      rw [if_neg hc37] at hv37_1
      rw [hv37_0, hv37_1] at J37
      refine zq_go (fun _ kq => XS.icmpNo X2_33j1.here hx rfl (hb hby zq_d2_37) rfl (flt hc37).1 kq) ?_
      show zq_Go p e below s _ _ _ (T2_33j1.setTop (mkF m 40 #[.val (.int v22_0), .val (.int v22_1)] []))
      refine zq_go (fun _ kq => XS.iinc X2_33j1.here hx rfl (hb hby zq_d2_40) rfl (l' := #[.val (.int v22_0), .val (.int (v22_1 + (-8 : Int32)))]) rfl kq) ?_
      show zq_Go p e below s _ _ _ (T2_33j1.setTop (mkF m 43 #[.val (.int v22_0), .val (.int (v22_1 + (-8 : Int32)))] []))
      refine zq_go (fun _ kq => XS.iloadN X2_33j1.here hx rfl (hb hby zq_d2_43) rfl kq) ?_
      show zq_Go p e below s _ _ _ (T2_33j1.setTop (mkF m 44 #[.val (.int v22_0), .val (.int (v22_1 + (-8 : Int32)))] [(.int v22_0)]))
      refine zq_go (fun _ kq => XS.bipush X2_33j1.here hx rfl (hb hby zq_d2_44) kq) ?_
      show zq_Go p e below s _ _ _ (T2_33j1.setTop (mkF m 46 #[.val (.int v22_0), .val (.int (v22_1 + (-8 : Int32)))] [(.int (8 : Int32)), (.int v22_0)]))
      refine zq_go (fun _ kq => XS.iushr X2_33j1.here hx rfl (hb hby zq_d2_46) rfl kq) ?_
      show zq_Go p e below s _ _ _ (T2_33j1.setTop (mkF m 47 #[.val (.int v22_0), .val (.int (v22_1 + (-8 : Int32)))] [(.int ((v22_0.toUInt32 >>> ((8 : Int32) &&& 31).toUInt32).toInt32))]))
      refine zq_go (fun _ kq => XS.istoreN X2_33j1.here hx rfl (hb hby zq_d2_47) rfl (l' := #[.val (.int ((v22_0.toUInt32 >>> ((8 : Int32) &&& 31).toUInt32).toInt32)), .val (.int (v22_1 + (-8 : Int32)))]) rfl kq) ?_
      exact J37 _ X2_33j1 e2_33j1
    by_cases hc22 : x0 < (65536 : Int32)
    ·
      rw [if_pos hc22] at hv22_0
      rw [if_pos hc22] at hv22_1
      rw [hv22_0, hv22_1] at J22
      refine zq_go (fun _ kq => XS.icmpYes X0.here hx rfl (pc0 := 22) (pc' := 33) rfl (hb hby zq_d2_22) rfl (tlt hc22).1 (by decide) (by decide) kq) ?_
      exact J22 _ X0 e0
    rw [if_neg hc22] at hv22_0
    rw [if_neg hc22] at hv22_1
    rw [hv22_0, hv22_1] at J22
    refine zq_go (fun _ kq => XS.icmpNo X0.here hx rfl (hb hby zq_d2_22) rfl (flt hc22).1 kq) ?_
    show zq_Go p e below s _ _ _ (s₁.setTop (mkF m 25 #[.val (.int x0), .val (.int (31 : Int32))] []))
    refine zq_go (fun _ kq => XS.iinc X0.here hx rfl (hb hby zq_d2_25) rfl (l' := #[.val (.int x0), .val (.int ((31 : Int32) + (-16 : Int32)))]) rfl kq) ?_
    show zq_Go p e below s _ _ _ (s₁.setTop (mkF m 28 #[.val (.int x0), .val (.int ((31 : Int32) + (-16 : Int32)))] []))
    refine zq_go (fun _ kq => XS.iloadN X0.here hx rfl (hb hby zq_d2_28) rfl kq) ?_
    show zq_Go p e below s _ _ _ (s₁.setTop (mkF m 29 #[.val (.int x0), .val (.int ((31 : Int32) + (-16 : Int32)))] [(.int x0)]))
    refine zq_go (fun _ kq => XS.bipush X0.here hx rfl (hb hby zq_d2_29) kq) ?_
    show zq_Go p e below s _ _ _ (s₁.setTop (mkF m 31 #[.val (.int x0), .val (.int ((31 : Int32) + (-16 : Int32)))] [(.int (16 : Int32)), (.int x0)]))
    refine zq_go (fun _ kq => XS.iushr X0.here hx rfl (hb hby zq_d2_31) rfl kq) ?_
    show zq_Go p e below s _ _ _ (s₁.setTop (mkF m 32 #[.val (.int x0), .val (.int ((31 : Int32) + (-16 : Int32)))] [(.int ((x0.toUInt32 >>> ((16 : Int32) &&& 31).toUInt32).toInt32))]))
    refine zq_go (fun _ kq => XS.istoreN X0.here hx rfl (hb hby zq_d2_32) rfl (l' := #[.val (.int ((x0.toUInt32 >>> ((16 : Int32) &&& 31).toUInt32).toInt32)), .val (.int ((31 : Int32) + (-16 : Int32)))]) rfl kq) ?_
    exact J22 _ X0 e0
  refine zq_go (fun _ kq => XS.ifNo X0.here hx rfl (hb hby zq_d2_1) rfl ((if0 _ _).trans (flt hc1).2.2.1) kq) ?_
  show zq_Go p e below s _ _ _ (s₁.setTop (mkF m 4 #[.val (.int x0), .unset] []))
  refine zq_go (fun _ kq => XS.iloadN X0.here hx rfl (hb hby zq_d2_4) rfl kq) ?_
  show zq_Go p e below s _ _ _ (s₁.setTop (mkF m 5 #[.val (.int x0), .unset] [(.int x0)]))
  obtain ⟨v5_0, hv5_0⟩ : ∃ z : Int32, z = (if x0 = (0 : Int32) then (32 : Int32) else (0 : Int32)) := ⟨_, rfl⟩
  have J5 : ∀ (T2_14j5 : State), Stand p l e ({ frames := 0, cells := 0, slots := 0, locals := 0 } : Room) s m #[(.int x0)] below meth c T2_14j5 [] 0 0 → T2_14j5.heap = h0 → zq_Go p e below s (zq_pure (.int (zq_nlz x0)) h0) ({ frames := 0, cells := 0, slots := 0, locals := 0 } : Room).cells ({ frames := 0, cells := 0, slots := 0, locals := 0 } : Room).slots (T2_14j5.setTop (mkF m 14 #[.val (.int x0), .unset] [(.int v5_0)])) := by
    intro T2_14j5 X2_14j5 e2_14j5
    show zq_Go p e below s _ _ _ (T2_14j5.setTop (mkF m 14 #[.val (.int x0), .unset] [(.int v5_0)]))
    exact zq_retI X2_14j5 hx hlk hret (hb hby zq_d2_14) ⟨by unfold zq_nlz; rw [if_neg hc1, ← hv5_0], rfl, e2_14j5⟩ (by decide) (by decide)
  by_cases hc5 : x0 = (0 : Int32)
  ·
    rw [if_pos hc5] at hv5_0
    rw [hv5_0] at J5
    refine zq_go (fun _ kq => XS.ifNo X0.here hx rfl (hb hby zq_d2_5) rfl ((if0 _ _).trans (teq hc5).2) kq) ?_
    show zq_Go p e below s _ _ _ (s₁.setTop (mkF m 8 #[.val (.int x0), .unset] []))
    refine zq_go (fun _ kq => XS.bipush X0.here hx rfl (hb hby zq_d2_8) kq) ?_
    show zq_Go p e below s _ _ _ (s₁.setTop (mkF m 10 #[.val (.int x0), .unset] [(.int (32 : Int32))]))
    refine zq_go (fun _ kq => XS.goto X0.here hx rfl (pc0 := 10) (pc' := 14) rfl (hb hby zq_d2_10) (by decide) (by decide) kq) ?_
    exact J5 _ X0 e0
  rw [if_neg hc5] at hv5_0
  rw [hv5_0] at J5
  refine zq_go (fun _ kq => XS.ifYes X0.here hx rfl (pc0 := 5) (pc' := 13) rfl (hb hby zq_d2_5) rfl ((if0 _ _).trans (feq hc5).2) (by decide) (by decide) kq) ?_
  show zq_Go p e below s _ _ _ (s₁.setTop (mkF m 13 #[.val (.int x0), .unset] []))
  refine zq_go (fun _ kq => XS.iconst X0.here hx rfl (hb hby zq_d2_13) kq) ?_
  exact J5 _ X0 e0
theorem zq_pn1 : plainName "com/example/clearline/clearline/formats/TableHash" = true := by first | (simp [plainName, overriddenIn]; done) | decide +kernel
theorem zq_pd2 : parseMethodDescriptor "(I)I" = some ⟨[.int], some .int⟩ := by decide +kernel
theorem zq_d1_0 : decode prog_78_method_3_code 0 = .ok (.iload_n 0, 1) := by decide +kernel
theorem zq_d1_1 : decode prog_78_method_3_code 1 = .ok (.ldc 26, 2) := by decide +kernel
theorem zq_d1_3 : decode prog_78_method_3_code 3 = .ok (.imul, 1) := by decide +kernel
theorem zq_d1_4 : decode prog_78_method_3_code 4 = .ok (.iload_n 1, 1) := by decide +kernel
theorem zq_d1_5 : decode prog_78_method_3_code 5 = .ok (.iconst 1, 1) := by decide +kernel
theorem zq_d1_6 : decode prog_78_method_3_code 6 = .ok (.isub, 1) := by decide +kernel
theorem zq_d1_7 : decode prog_78_method_3_code 7 = .ok (.invokestatic 27, 3) := by decide +kernel
theorem zq_d1_10 : decode prog_78_method_3_code 10 = .ok (.iushr, 1) := by decide +kernel
theorem zq_d1_11 : decode prog_78_method_3_code 11 = .ok (.ireturn, 1) := by decide +kernel
theorem zq_ef1 (m : MethodId) (x0 : Int32) (x1 : Int32) : entryFrame m #[(.int x0), (.int x1)] 2 = mkF m 0 #[.val (.int x0), .val (.int x1)] [] := by first | (simp [entryFrame, mkF, argsToLocals, Value.category]; done) | rfl
set_option maxRecDepth 65536 in
set_option maxHeartbeats 40000000 in
theorem zq_rmS (l : Launch) (Z : State) (a0 : Array Value) (hw : ∀ d ∈ tables_1, d.before a0 Z = true) (ws : List Jvm.Cond) (h : Int32) (n : Int32) (h0 : Heap) :
    zq_Met l Z (⟨"com/example/clearline/clearline/formats/TableHash", "slotOf", "(II)I"⟩ : MethodName) prog_78_method_3_code 2 (some .int) ws ({ frames := 1, cells := 0, slots := 0, locals := 15 } : Room) #[(.int h), (.int n)] h0 (zq_pure (.int (zq_slot h n)) h0) := by
  refine zq_body (plainFor_of_name zq_pn1) ?_
  intro p e s m below meth c s₁ hx hZ hby hml hret hlk hown hnm X0 e0
  refine zq_go (fun _ kq => castTop (zq_ef1 m h n) kq) ?_
  show zq_Go p e below s _ _ _ (s₁.setTop (mkF m 0 #[.val (.int h), .val (.int n)] []))
  refine zq_go (fun _ kq => XS.iloadN X0.here hx rfl (hb hby zq_d1_0) rfl kq) ?_
  show zq_Go p e below s _ _ _ (s₁.setTop (mkF m 1 #[.val (.int h), .val (.int n)] [(.int h)]))
  refine zq_go (X0.ldcInt hx hown (mvT hZ (hw _ (List.mem_of_getElem? (i := 5) rfl))) (g := (mkF m 1 #[.val (.int h), .val (.int n)] [(.int h)])) rfl (hb hby zq_d1_1)) ?_
  show zq_Go p e below s _ _ _ (s₁.setTop (mkF m 3 #[.val (.int h), .val (.int n)] [(.int (-1640531527 : Int32)), (.int h)]))
  refine zq_go (fun _ kq => XS.imul X0.here hx rfl (hb hby zq_d1_3) rfl kq) ?_
  show zq_Go p e below s _ _ _ (s₁.setTop (mkF m 4 #[.val (.int h), .val (.int n)] [(.int (h * (-1640531527 : Int32)))]))
  refine zq_go (fun _ kq => XS.iloadN X0.here hx rfl (hb hby zq_d1_4) rfl kq) ?_
  show zq_Go p e below s _ _ _ (s₁.setTop (mkF m 5 #[.val (.int h), .val (.int n)] [(.int n), (.int (h * (-1640531527 : Int32)))]))
  refine zq_go (fun _ kq => XS.iconst X0.here hx rfl (hb hby zq_d1_5) kq) ?_
  show zq_Go p e below s _ _ _ (s₁.setTop (mkF m 6 #[.val (.int h), .val (.int n)] [(.int (1 : Int32)), (.int n), (.int (h * (-1640531527 : Int32)))]))
  refine zq_go (fun _ kq => XS.isub X0.here hx rfl (hb hby zq_d1_6) rfl kq) ?_
  show zq_Go p e below s _ _ _ (s₁.setTop (mkF m 7 #[.val (.int h), .val (.int n)] [(.int (n - (1 : Int32))), (.int (h * (-1640531527 : Int32)))]))
  obtain ⟨T1, X1, e1, st1⟩ := zq_callP (W := 1) X0 hx hZ hown (hw _ (List.mem_of_getElem? (i := 6) rfl)) (hw _ (List.mem_of_getElem? (i := 7) rfl)) (hw _ (List.mem_of_getElem? (i := 8) rfl)) (hw _ (List.mem_of_getElem? (i := 9) rfl)) (by decide) (zq_rmN l Z a0 hw [] (n - (1 : Int32)) h0) e0 (by decide) (by decide) rfl rfl (by decide) (by decide) (g := (mkF m 7 #[.val (.int h), .val (.int n)] [(.int (n - (1 : Int32))), (.int (h * (-1640531527 : Int32)))])) rfl (by rw [hml]; rfl) (argsL := [(.int (n - (1 : Int32)))]) (rest := [(.int (h * (-1640531527 : Int32)))]) (lenOf zq_pd2 rfl) rfl (by show 2 * 0 + _ ≤ _; exact Nat.le_of_eq rfl) (hb hby zq_d1_7)
  refine zq_go st1 ?_
  show zq_Go p e below s _ _ _ (T1.setTop (mkF m 10 #[.val (.int h), .val (.int n)] [(.int (zq_nlz (n - (1 : Int32)))), (.int (h * (-1640531527 : Int32)))]))
  refine zq_go (fun _ kq => XS.iushr X1.here hx rfl (hb hby zq_d1_10) rfl kq) ?_
  show zq_Go p e below s _ _ _ (T1.setTop (mkF m 11 #[.val (.int h), .val (.int n)] [(.int (((h * (-1640531527 : Int32)).toUInt32 >>> ((zq_nlz (n - (1 : Int32))) &&& 31).toUInt32).toInt32))]))
  exact zq_retI X1 hx hlk hret (hb hby zq_d1_11) ⟨rfl, rfl, e1⟩ (by decide) (by decide)
theorem zq_pn3 : plainName "com/example/clearline/clearline/formats/TableHashSlotOfPinLaw" = true := by first | (simp [plainName, overriddenIn]; done) | decide +kernel
theorem zq_pd4 : parseMethodDescriptor "(II)I" = some ⟨[.int, .int], some .int⟩ := by decide +kernel
theorem zq_ef0 (m : MethodId) (x0 : Int32) (x1 : Int32) : entryFrame m #[(.int x0), (.int x1)] maxLocals = mkF m 0 #[.val (.int x0), .val (.int x1), .unset, .unset, .unset, .unset, .unset, .unset] [] := by first | (simp [entryFrame, mkF, argsToLocals, Value.category, maxLocals]; done) | rfl
set_option maxRecDepth 65536 in
set_option maxHeartbeats 40000000 in
theorem zq_rm0 (l : Launch) (Z : State) (a0 : Array Value) (hw : ∀ d ∈ tables_1, d.before a0 Z = true) (ws : List Jvm.Cond) (x0 : Int32) (x1 : Int32) (h0 : Heap) :
    zq_Met l Z x code maxLocals ret ws room_1 #[(.int x0), (.int x1)] h0 (zq_one h0.size) := by
  refine zq_body (plainFor_of_name zq_pn3) ?_
  intro p e s m below meth c s₁ hx hZ hby hml hret hlk hown hnm X0 e0
  refine zq_go (fun _ kq => castTop (zq_ef0 m x0 x1) kq) ?_
  show zq_Go p e below s _ _ _ (s₁.setTop (mkF m 0 #[.val (.int x0), .val (.int x1), .unset, .unset, .unset, .unset, .unset, .unset] []))
  refine zq_go (fun _ kq => XS.iconst X0.here hx rfl (hb hby at_0) kq) ?_
  show zq_Go p e below s _ _ _ (s₁.setTop (mkF m 1 #[.val (.int x0), .val (.int x1), .unset, .unset, .unset, .unset, .unset, .unset] [(.int (1 : Int32))]))
  refine zq_go (fun _ kq => XS.iloadN X0.here hx rfl (hb hby at_1) rfl kq) ?_
  show zq_Go p e below s _ _ _ (s₁.setTop (mkF m 2 #[.val (.int x0), .val (.int x1), .unset, .unset, .unset, .unset, .unset, .unset] [(.int x1), (.int (1 : Int32))]))
  refine zq_go (X0.ldcInt hx hown (mvT hZ (hw _ (List.mem_of_getElem? (i := 0) rfl))) (g := (mkF m 2 #[.val (.int x0), .val (.int x1), .unset, .unset, .unset, .unset, .unset, .unset] [(.int x1), (.int (1 : Int32))])) rfl (hb hby at_2)) ?_
  show zq_Go p e below s _ _ _ (s₁.setTop (mkF m 4 #[.val (.int x0), .val (.int x1), .unset, .unset, .unset, .unset, .unset, .unset] [(.int (2147483647 : Int32)), (.int x1), (.int (1 : Int32))]))
  refine zq_go (fun _ kq => XS.iand X0.here hx rfl (hb hby at_4) rfl kq) ?_
  show zq_Go p e below s _ _ _ (s₁.setTop (mkF m 5 #[.val (.int x0), .val (.int x1), .unset, .unset, .unset, .unset, .unset, .unset] [(.int (x1 &&& (2147483647 : Int32))), (.int (1 : Int32))]))
  refine zq_go (fun _ kq => XS.bipush X0.here hx rfl (hb hby at_5) kq) ?_
  show zq_Go p e below s _ _ _ (s₁.setTop (mkF m 7 #[.val (.int x0), .val (.int x1), .unset, .unset, .unset, .unset, .unset, .unset] [(.int (30 : Int32)), (.int (x1 &&& (2147483647 : Int32))), (.int (1 : Int32))]))
  refine zq_go (fun _ kq => XS.irem X0.here hx rfl (hb hby at_7) rfl (by decide) kq) ?_
  show zq_Go p e below s _ _ _ (s₁.setTop (mkF m 8 #[.val (.int x0), .val (.int x1), .unset, .unset, .unset, .unset, .unset, .unset] [(.int ((x1 &&& (2147483647 : Int32)) - ((x1 &&& (2147483647 : Int32)) / (30 : Int32)) * (30 : Int32))), (.int (1 : Int32))]))
  refine zq_go (fun _ kq => XS.iadd X0.here hx rfl (hb hby at_8) rfl kq) ?_
  show zq_Go p e below s _ _ _ (s₁.setTop (mkF m 9 #[.val (.int x0), .val (.int x1), .unset, .unset, .unset, .unset, .unset, .unset] [(.int ((1 : Int32) + ((x1 &&& (2147483647 : Int32)) - ((x1 &&& (2147483647 : Int32)) / (30 : Int32)) * (30 : Int32))))]))
  change zq_Go p e below s _ _ _ (s₁.setTop (mkF m 9 #[.val (.int x0), .val (.int x1), .unset, .unset, .unset, .unset, .unset, .unset] [(.int (zq_K x1))]))
  show zq_Go p e below s _ _ _ (s₁.setTop (mkF m 9 #[.val (.int x0), .val (.int x1), .unset, .unset, .unset, .unset, .unset, .unset] [(.int (zq_K x1))]))
  refine zq_go (fun _ kq => XS.istoreN X0.here hx rfl (hb hby at_9) rfl (l' := #[.val (.int x0), .val (.int x1), .val (.int (zq_K x1)), .unset, .unset, .unset, .unset, .unset]) rfl kq) ?_
  show zq_Go p e below s _ _ _ (s₁.setTop (mkF m 10 #[.val (.int x0), .val (.int x1), .val (.int (zq_K x1)), .unset, .unset, .unset, .unset, .unset] []))
  refine zq_go (fun _ kq => XS.iconst X0.here hx rfl (hb hby at_10) kq) ?_
  show zq_Go p e below s _ _ _ (s₁.setTop (mkF m 11 #[.val (.int x0), .val (.int x1), .val (.int (zq_K x1)), .unset, .unset, .unset, .unset, .unset] [(.int (1 : Int32))]))
  refine zq_go (fun _ kq => XS.iloadN X0.here hx rfl (hb hby at_11) rfl kq) ?_
  show zq_Go p e below s _ _ _ (s₁.setTop (mkF m 12 #[.val (.int x0), .val (.int x1), .val (.int (zq_K x1)), .unset, .unset, .unset, .unset, .unset] [(.int (zq_K x1)), (.int (1 : Int32))]))
  refine zq_go (fun _ kq => XS.ishl X0.here hx rfl (hb hby at_12) rfl kq) ?_
  show zq_Go p e below s _ _ _ (s₁.setTop (mkF m 13 #[.val (.int x0), .val (.int x1), .val (.int (zq_K x1)), .unset, .unset, .unset, .unset, .unset] [(.int ((1 : Int32) <<< ((zq_K x1) &&& 31)))]))
  change zq_Go p e below s _ _ _ (s₁.setTop (mkF m 13 #[.val (.int x0), .val (.int x1), .val (.int (zq_K x1)), .unset, .unset, .unset, .unset, .unset] [(.int (zq_size (zq_K x1)))]))
  show zq_Go p e below s _ _ _ (s₁.setTop (mkF m 13 #[.val (.int x0), .val (.int x1), .val (.int (zq_K x1)), .unset, .unset, .unset, .unset, .unset] [(.int (zq_size (zq_K x1)))]))
  refine zq_go (fun _ kq => XS.istoreN X0.here hx rfl (hb hby at_13) rfl (l' := #[.val (.int x0), .val (.int x1), .val (.int (zq_K x1)), .val (.int (zq_size (zq_K x1))), .unset, .unset, .unset, .unset]) rfl kq) ?_
  show zq_Go p e below s _ _ _ (s₁.setTop (mkF m 14 #[.val (.int x0), .val (.int x1), .val (.int (zq_K x1)), .val (.int (zq_size (zq_K x1))), .unset, .unset, .unset, .unset] []))
  refine zq_go (fun _ kq => XS.iloadN X0.here hx rfl (hb hby at_14) rfl kq) ?_
  show zq_Go p e below s _ _ _ (s₁.setTop (mkF m 15 #[.val (.int x0), .val (.int x1), .val (.int (zq_K x1)), .val (.int (zq_size (zq_K x1))), .unset, .unset, .unset, .unset] [(.int x0)]))
  refine zq_go (fun _ kq => XS.iloadN X0.here hx rfl (hb hby at_15) rfl kq) ?_
  show zq_Go p e below s _ _ _ (s₁.setTop (mkF m 16 #[.val (.int x0), .val (.int x1), .val (.int (zq_K x1)), .val (.int (zq_size (zq_K x1))), .unset, .unset, .unset, .unset] [(.int (zq_size (zq_K x1))), (.int x0)]))
  obtain ⟨T1, X1, e1, st1⟩ := zq_callP (W := 0) X0 hx hZ hown (hw _ (List.mem_of_getElem? (i := 1) rfl)) (hw _ (List.mem_of_getElem? (i := 2) rfl)) (hw _ (List.mem_of_getElem? (i := 3) rfl)) (hw _ (List.mem_of_getElem? (i := 4) rfl)) (by decide) (zq_rmS l Z a0 hw [] x0 (zq_size (zq_K x1)) h0) e0 (by decide) (by decide) rfl rfl (by decide) (by decide) (g := (mkF m 16 #[.val (.int x0), .val (.int x1), .val (.int (zq_K x1)), .val (.int (zq_size (zq_K x1))), .unset, .unset, .unset, .unset] [(.int (zq_size (zq_K x1))), (.int x0)])) rfl (by rw [hml]; rfl) (argsL := [(.int x0), (.int (zq_size (zq_K x1)))]) (rest := []) (lenOf zq_pd4 rfl) rfl (by show 2 * 0 + _ ≤ _; exact Nat.le_of_eq rfl) (hb hby at_16)
  refine zq_go st1 ?_
  show zq_Go p e below s _ _ _ (T1.setTop (mkF m 19 #[.val (.int x0), .val (.int x1), .val (.int (zq_K x1)), .val (.int (zq_size (zq_K x1))), .unset, .unset, .unset, .unset] [(.int (zq_slot x0 (zq_size (zq_K x1))))]))
  refine zq_go (fun _ kq => XS.istore X1.here hx rfl (hb hby at_19) rfl (l' := #[.val (.int x0), .val (.int x1), .val (.int (zq_K x1)), .val (.int (zq_size (zq_K x1))), .val (.int (zq_slot x0 (zq_size (zq_K x1)))), .unset, .unset, .unset]) rfl kq) ?_
  show zq_Go p e below s _ _ _ (T1.setTop (mkF m 21 #[.val (.int x0), .val (.int x1), .val (.int (zq_K x1)), .val (.int (zq_size (zq_K x1))), .val (.int (zq_slot x0 (zq_size (zq_K x1)))), .unset, .unset, .unset] []))
  refine zq_go (fun _ kq => XS.iloadN X1.here hx rfl (hb hby at_21) rfl kq) ?_
  show zq_Go p e below s _ _ _ (T1.setTop (mkF m 22 #[.val (.int x0), .val (.int x1), .val (.int (zq_K x1)), .val (.int (zq_size (zq_K x1))), .val (.int (zq_slot x0 (zq_size (zq_K x1)))), .unset, .unset, .unset] [(.int x0)]))
  refine zq_go (fun _ kq => XS.i2l X1.here hx rfl (hb hby at_22) rfl kq) ?_
  show zq_Go p e below s _ _ _ (T1.setTop (mkF m 23 #[.val (.int x0), .val (.int x1), .val (.int (zq_K x1)), .val (.int (zq_size (zq_K x1))), .val (.int (zq_slot x0 (zq_size (zq_K x1)))), .unset, .unset, .unset] [(.long (x0.toInt64))]))
  refine zq_go (X1.ldc2Long hx hown (mvT hZ (hw _ (List.mem_of_getElem? (i := 11) rfl))) (g := (mkF m 23 #[.val (.int x0), .val (.int x1), .val (.int (zq_K x1)), .val (.int (zq_size (zq_K x1))), .val (.int (zq_slot x0 (zq_size (zq_K x1)))), .unset, .unset, .unset] [(.long (x0.toInt64))])) rfl (hb hby at_23)) ?_
  show zq_Go p e below s _ _ _ (T1.setTop (mkF m 26 #[.val (.int x0), .val (.int x1), .val (.int (zq_K x1)), .val (.int (zq_size (zq_K x1))), .val (.int (zq_slot x0 (zq_size (zq_K x1)))), .unset, .unset, .unset] [(.long (2654435769 : Int64)), (.long (x0.toInt64))]))
  refine zq_go (fun _ kq => XS.lmul X1.here hx rfl (hb hby at_26) rfl kq) ?_
  show zq_Go p e below s _ _ _ (T1.setTop (mkF m 27 #[.val (.int x0), .val (.int x1), .val (.int (zq_K x1)), .val (.int (zq_size (zq_K x1))), .val (.int (zq_slot x0 (zq_size (zq_K x1)))), .unset, .unset, .unset] [(.long ((x0.toInt64) * (2654435769 : Int64)))]))
  refine zq_go (X1.ldc2Long hx hown (mvT hZ (hw _ (List.mem_of_getElem? (i := 12) rfl))) (g := (mkF m 27 #[.val (.int x0), .val (.int x1), .val (.int (zq_K x1)), .val (.int (zq_size (zq_K x1))), .val (.int (zq_slot x0 (zq_size (zq_K x1)))), .unset, .unset, .unset] [(.long ((x0.toInt64) * (2654435769 : Int64)))])) rfl (hb hby at_27)) ?_
  show zq_Go p e below s _ _ _ (T1.setTop (mkF m 30 #[.val (.int x0), .val (.int x1), .val (.int (zq_K x1)), .val (.int (zq_size (zq_K x1))), .val (.int (zq_slot x0 (zq_size (zq_K x1)))), .unset, .unset, .unset] [(.long (4294967295 : Int64)), (.long ((x0.toInt64) * (2654435769 : Int64)))]))
  refine zq_go (fun _ kq => XS.land X1.here hx rfl (hb hby at_30) rfl kq) ?_
  show zq_Go p e below s _ _ _ (T1.setTop (mkF m 31 #[.val (.int x0), .val (.int x1), .val (.int (zq_K x1)), .val (.int (zq_size (zq_K x1))), .val (.int (zq_slot x0 (zq_size (zq_K x1)))), .unset, .unset, .unset] [(.long (((x0.toInt64) * (2654435769 : Int64)) &&& (4294967295 : Int64)))]))
  refine zq_go (fun _ kq => XS.lstore X1.here hx rfl (hb hby at_31) rfl (l' := #[.val (.int x0), .val (.int x1), .val (.int (zq_K x1)), .val (.int (zq_size (zq_K x1))), .val (.int (zq_slot x0 (zq_size (zq_K x1)))), .val (.long (((x0.toInt64) * (2654435769 : Int64)) &&& (4294967295 : Int64))), .second, .unset]) rfl kq) ?_
  show zq_Go p e below s _ _ _ (T1.setTop (mkF m 33 #[.val (.int x0), .val (.int x1), .val (.int (zq_K x1)), .val (.int (zq_size (zq_K x1))), .val (.int (zq_slot x0 (zq_size (zq_K x1)))), .val (.long (((x0.toInt64) * (2654435769 : Int64)) &&& (4294967295 : Int64))), .second, .unset] []))
  refine zq_go (fun _ kq => XS.lload X1.here hx rfl (hb hby at_33) rfl kq) ?_
  show zq_Go p e below s _ _ _ (T1.setTop (mkF m 35 #[.val (.int x0), .val (.int x1), .val (.int (zq_K x1)), .val (.int (zq_size (zq_K x1))), .val (.int (zq_slot x0 (zq_size (zq_K x1)))), .val (.long (((x0.toInt64) * (2654435769 : Int64)) &&& (4294967295 : Int64))), .second, .unset] [(.long (((x0.toInt64) * (2654435769 : Int64)) &&& (4294967295 : Int64)))]))
  refine zq_go (fun _ kq => XS.bipush X1.here hx rfl (hb hby at_35) kq) ?_
  show zq_Go p e below s _ _ _ (T1.setTop (mkF m 37 #[.val (.int x0), .val (.int x1), .val (.int (zq_K x1)), .val (.int (zq_size (zq_K x1))), .val (.int (zq_slot x0 (zq_size (zq_K x1)))), .val (.long (((x0.toInt64) * (2654435769 : Int64)) &&& (4294967295 : Int64))), .second, .unset] [(.int (32 : Int32)), (.long (((x0.toInt64) * (2654435769 : Int64)) &&& (4294967295 : Int64)))]))
  refine zq_go (fun _ kq => XS.iloadN X1.here hx rfl (hb hby at_37) rfl kq) ?_
  show zq_Go p e below s _ _ _ (T1.setTop (mkF m 38 #[.val (.int x0), .val (.int x1), .val (.int (zq_K x1)), .val (.int (zq_size (zq_K x1))), .val (.int (zq_slot x0 (zq_size (zq_K x1)))), .val (.long (((x0.toInt64) * (2654435769 : Int64)) &&& (4294967295 : Int64))), .second, .unset] [(.int (zq_K x1)), (.int (32 : Int32)), (.long (((x0.toInt64) * (2654435769 : Int64)) &&& (4294967295 : Int64)))]))
  refine zq_go (fun _ kq => XS.isub X1.here hx rfl (hb hby at_38) rfl kq) ?_
  show zq_Go p e below s _ _ _ (T1.setTop (mkF m 39 #[.val (.int x0), .val (.int x1), .val (.int (zq_K x1)), .val (.int (zq_size (zq_K x1))), .val (.int (zq_slot x0 (zq_size (zq_K x1)))), .val (.long (((x0.toInt64) * (2654435769 : Int64)) &&& (4294967295 : Int64))), .second, .unset] [(.int ((32 : Int32) - (zq_K x1))), (.long (((x0.toInt64) * (2654435769 : Int64)) &&& (4294967295 : Int64)))]))
  refine zq_go (fun _ kq => XS.lushr X1.here hx rfl (hb hby at_39) rfl kq) ?_
  show zq_Go p e below s _ _ _ (T1.setTop (mkF m 40 #[.val (.int x0), .val (.int x1), .val (.int (zq_K x1)), .val (.int (zq_size (zq_K x1))), .val (.int (zq_slot x0 (zq_size (zq_K x1)))), .val (.long (((x0.toInt64) * (2654435769 : Int64)) &&& (4294967295 : Int64))), .second, .unset] [(.long (((((x0.toInt64) * (2654435769 : Int64)) &&& (4294967295 : Int64)).toUInt64 >>> (((32 : Int32) - (zq_K x1)) &&& 0x3f).toInt64.toUInt64).toInt64))]))
  refine zq_go (fun _ kq => XS.l2i X1.here hx rfl (hb hby at_40) rfl kq) ?_
  show zq_Go p e below s _ _ _ (T1.setTop (mkF m 41 #[.val (.int x0), .val (.int x1), .val (.int (zq_K x1)), .val (.int (zq_size (zq_K x1))), .val (.int (zq_slot x0 (zq_size (zq_K x1)))), .val (.long (((x0.toInt64) * (2654435769 : Int64)) &&& (4294967295 : Int64))), .second, .unset] [(.int ((((((x0.toInt64) * (2654435769 : Int64)) &&& (4294967295 : Int64)).toUInt64 >>> (((32 : Int32) - (zq_K x1)) &&& 0x3f).toInt64.toUInt64).toInt64).toInt32))]))
  refine zq_go (fun _ kq => XS.istore X1.here hx rfl (hb hby at_41) rfl (l' := #[.val (.int x0), .val (.int x1), .val (.int (zq_K x1)), .val (.int (zq_size (zq_K x1))), .val (.int (zq_slot x0 (zq_size (zq_K x1)))), .val (.long (((x0.toInt64) * (2654435769 : Int64)) &&& (4294967295 : Int64))), .second, .val (.int ((((((x0.toInt64) * (2654435769 : Int64)) &&& (4294967295 : Int64)).toUInt64 >>> (((32 : Int32) - (zq_K x1)) &&& 0x3f).toInt64.toUInt64).toInt64).toInt32))]) rfl kq) ?_
  show zq_Go p e below s _ _ _ (T1.setTop (mkF m 43 #[.val (.int x0), .val (.int x1), .val (.int (zq_K x1)), .val (.int (zq_size (zq_K x1))), .val (.int (zq_slot x0 (zq_size (zq_K x1)))), .val (.long (((x0.toInt64) * (2654435769 : Int64)) &&& (4294967295 : Int64))), .second, .val (.int ((((((x0.toInt64) * (2654435769 : Int64)) &&& (4294967295 : Int64)).toUInt64 >>> (((32 : Int32) - (zq_K x1)) &&& 0x3f).toInt64.toUInt64).toInt64).toInt32))] []))
  refine zq_go (fun _ kq => XS.iload X1.here hx rfl (hb hby at_43) rfl kq) ?_
  show zq_Go p e below s _ _ _ (T1.setTop (mkF m 45 #[.val (.int x0), .val (.int x1), .val (.int (zq_K x1)), .val (.int (zq_size (zq_K x1))), .val (.int (zq_slot x0 (zq_size (zq_K x1)))), .val (.long (((x0.toInt64) * (2654435769 : Int64)) &&& (4294967295 : Int64))), .second, .val (.int ((((((x0.toInt64) * (2654435769 : Int64)) &&& (4294967295 : Int64)).toUInt64 >>> (((32 : Int32) - (zq_K x1)) &&& 0x3f).toInt64.toUInt64).toInt64).toInt32))] [(.int (zq_slot x0 (zq_size (zq_K x1))))]))
  refine zq_go (fun _ kq => XS.iload X1.here hx rfl (hb hby at_45) rfl kq) ?_
  show zq_Go p e below s _ _ _ (T1.setTop (mkF m 47 #[.val (.int x0), .val (.int x1), .val (.int (zq_K x1)), .val (.int (zq_size (zq_K x1))), .val (.int (zq_slot x0 (zq_size (zq_K x1)))), .val (.long (((x0.toInt64) * (2654435769 : Int64)) &&& (4294967295 : Int64))), .second, .val (.int ((((((x0.toInt64) * (2654435769 : Int64)) &&& (4294967295 : Int64)).toUInt64 >>> (((32 : Int32) - (zq_K x1)) &&& 0x3f).toInt64.toUInt64).toInt64).toInt32))] [(.int ((((((x0.toInt64) * (2654435769 : Int64)) &&& (4294967295 : Int64)).toUInt64 >>> (((32 : Int32) - (zq_K x1)) &&& 0x3f).toInt64.toUInt64).toInt64).toInt32)), (.int (zq_slot x0 (zq_size (zq_K x1))))]))
  refine zq_go (fun _ kq => XS.icmpNo X1.here hx rfl (hb hby at_47) rfl (teq ((zq_law x0 x1).1 : (zq_slot x0 (zq_size (zq_K x1))) = ((((((x0.toInt64) * (2654435769 : Int64)) &&& (4294967295 : Int64)).toUInt64 >>> (((32 : Int32) - (zq_K x1)) &&& 0x3f).toInt64.toUInt64).toInt64).toInt32))).2 kq) ?_
  show zq_Go p e below s _ _ _ (T1.setTop (mkF m 50 #[.val (.int x0), .val (.int x1), .val (.int (zq_K x1)), .val (.int (zq_size (zq_K x1))), .val (.int (zq_slot x0 (zq_size (zq_K x1)))), .val (.long (((x0.toInt64) * (2654435769 : Int64)) &&& (4294967295 : Int64))), .second, .val (.int ((((((x0.toInt64) * (2654435769 : Int64)) &&& (4294967295 : Int64)).toUInt64 >>> (((32 : Int32) - (zq_K x1)) &&& 0x3f).toInt64.toUInt64).toInt64).toInt32))] []))
  refine zq_go (fun _ kq => XS.iload X1.here hx rfl (hb hby at_50) rfl kq) ?_
  show zq_Go p e below s _ _ _ (T1.setTop (mkF m 52 #[.val (.int x0), .val (.int x1), .val (.int (zq_K x1)), .val (.int (zq_size (zq_K x1))), .val (.int (zq_slot x0 (zq_size (zq_K x1)))), .val (.long (((x0.toInt64) * (2654435769 : Int64)) &&& (4294967295 : Int64))), .second, .val (.int ((((((x0.toInt64) * (2654435769 : Int64)) &&& (4294967295 : Int64)).toUInt64 >>> (((32 : Int32) - (zq_K x1)) &&& 0x3f).toInt64.toUInt64).toInt64).toInt32))] [(.int (zq_slot x0 (zq_size (zq_K x1))))]))
  refine zq_go (fun _ kq => XS.ifNo X1.here hx rfl (hb hby at_52) rfl ((if0 _ _).trans (flt ((zq_law x0 x1).2.1 : ¬ ((zq_slot x0 (zq_size (zq_K x1))) < (0 : Int32)))).1) kq) ?_
  show zq_Go p e below s _ _ _ (T1.setTop (mkF m 55 #[.val (.int x0), .val (.int x1), .val (.int (zq_K x1)), .val (.int (zq_size (zq_K x1))), .val (.int (zq_slot x0 (zq_size (zq_K x1)))), .val (.long (((x0.toInt64) * (2654435769 : Int64)) &&& (4294967295 : Int64))), .second, .val (.int ((((((x0.toInt64) * (2654435769 : Int64)) &&& (4294967295 : Int64)).toUInt64 >>> (((32 : Int32) - (zq_K x1)) &&& 0x3f).toInt64.toUInt64).toInt64).toInt32))] []))
  refine zq_go (fun _ kq => XS.iload X1.here hx rfl (hb hby at_55) rfl kq) ?_
  show zq_Go p e below s _ _ _ (T1.setTop (mkF m 57 #[.val (.int x0), .val (.int x1), .val (.int (zq_K x1)), .val (.int (zq_size (zq_K x1))), .val (.int (zq_slot x0 (zq_size (zq_K x1)))), .val (.long (((x0.toInt64) * (2654435769 : Int64)) &&& (4294967295 : Int64))), .second, .val (.int ((((((x0.toInt64) * (2654435769 : Int64)) &&& (4294967295 : Int64)).toUInt64 >>> (((32 : Int32) - (zq_K x1)) &&& 0x3f).toInt64.toUInt64).toInt64).toInt32))] [(.int (zq_slot x0 (zq_size (zq_K x1))))]))
  refine zq_go (fun _ kq => XS.iloadN X1.here hx rfl (hb hby at_57) rfl kq) ?_
  show zq_Go p e below s _ _ _ (T1.setTop (mkF m 58 #[.val (.int x0), .val (.int x1), .val (.int (zq_K x1)), .val (.int (zq_size (zq_K x1))), .val (.int (zq_slot x0 (zq_size (zq_K x1)))), .val (.long (((x0.toInt64) * (2654435769 : Int64)) &&& (4294967295 : Int64))), .second, .val (.int ((((((x0.toInt64) * (2654435769 : Int64)) &&& (4294967295 : Int64)).toUInt64 >>> (((32 : Int32) - (zq_K x1)) &&& 0x3f).toInt64.toUInt64).toInt64).toInt32))] [(.int (zq_size (zq_K x1))), (.int (zq_slot x0 (zq_size (zq_K x1))))]))
  refine zq_go (fun _ kq => XS.icmpNo X1.here hx rfl (hb hby at_58) rfl (tlt ((zq_law x0 x1).2.2 : (zq_slot x0 (zq_size (zq_K x1))) < (zq_size (zq_K x1)))).2.1 kq) ?_
  show zq_Go p e below s _ _ _ (T1.setTop (mkF m 61 #[.val (.int x0), .val (.int x1), .val (.int (zq_K x1)), .val (.int (zq_size (zq_K x1))), .val (.int (zq_slot x0 (zq_size (zq_K x1)))), .val (.long (((x0.toInt64) * (2654435769 : Int64)) &&& (4294967295 : Int64))), .second, .val (.int ((((((x0.toInt64) * (2654435769 : Int64)) &&& (4294967295 : Int64)).toUInt64 >>> (((32 : Int32) - (zq_K x1)) &&& 0x3f).toInt64.toUInt64).toInt64).toInt32))] []))
  refine zq_go (fun _ kq => XS.iconst X1.here hx rfl (hb hby at_61) kq) ?_
  show zq_Go p e below s _ _ _ (T1.setTop (mkF m 62 #[.val (.int x0), .val (.int x1), .val (.int (zq_K x1)), .val (.int (zq_size (zq_K x1))), .val (.int (zq_slot x0 (zq_size (zq_K x1)))), .val (.long (((x0.toInt64) * (2654435769 : Int64)) &&& (4294967295 : Int64))), .second, .val (.int ((((((x0.toInt64) * (2654435769 : Int64)) &&& (4294967295 : Int64)).toUInt64 >>> (((32 : Int32) - (zq_K x1)) &&& 0x3f).toInt64.toUInt64).toInt64).toInt32))] [(.int (1 : Int32))]))
  refine zq_go (fun _ kq => XS.goto X1.here hx rfl (pc0 := 62) (pc' := 66) rfl (hb hby at_62) (by decide) (by decide) kq) ?_
  show zq_Go p e below s _ _ _ (T1.setTop (mkF m 66 #[.val (.int x0), .val (.int x1), .val (.int (zq_K x1)), .val (.int (zq_size (zq_K x1))), .val (.int (zq_slot x0 (zq_size (zq_K x1)))), .val (.long (((x0.toInt64) * (2654435769 : Int64)) &&& (4294967295 : Int64))), .second, .val (.int ((((((x0.toInt64) * (2654435769 : Int64)) &&& (4294967295 : Int64)).toUInt64 >>> (((32 : Int32) - (zq_K x1)) &&& 0x3f).toInt64.toUInt64).toInt64).toInt32))] [(.int (1 : Int32))]))
  exact zq_retN X1 hx hlk (t := .boolean) hret (by simp) (hb hby at_66) ⟨rfl, Fr.nil _⟩ (by decide) (by decide)
set_option maxRecDepth 65536 in
set_option maxHeartbeats 40000000 in
theorem zq_comes {Post : Tables → Env → Array Value → State → Outcome → State → Prop} (hpost : ∀ tb e args s v u, (limb_1_1.after args s (.returned v) u = true ∧ limb_1_2.after args s (.returned v) u = true ∧ True) → FrameEnd s (.returned v) u (Jvm.fieldLocs frame_1_writes args s ++ Jvm.arrayLocs frame_1_arrays args s ++ Jvm.staticLocs frame_1_statics s) 0 0 → Post tb e args s (.returned v) u) :
    ArmFor flags0 classFile x code maxLocals ret World_1 tables_1 room_1 Calls_1 rest_1 Pre_1 Post := by
  intro l hfl _ _ p e ha hc hk s m args below hf hA hF happ hP
  obtain ⟨hcalls, hrest, hpre⟩ := hP
  obtain ⟨-, -, -, hnamed, -, -, -, hat⟩ := (Spec.applies_iff hf).mp happ
  obtain ⟨hg, hn⟩ := and_e (Cond.before_iff.mp (show (Jvm.Cond.and given_1 narrow_1).before args s = true from hpre))
  obtain ⟨g0, t0⟩ := and_e hg
  obtain ⟨g1, t1⟩ := and_e t0
  obtain ⟨w0, w1, rfl⟩ : ∃ w0 w1 : Value, args = #[w0, w1] := by
    have hs : args.size = 2 := by simpa [Cond.value, given_1] using g0
    obtain ⟨L⟩ := args
    match L, hs with
    | [w0, w1], _ => exact ⟨w0, w1, rfl⟩
  have hw := fun d (hd : d ∈ tables_1) => atoms_spec (ws := Jvm.Cond.code x code maxLocals ret :: tables_1) hat d (List.mem_cons_of_mem _ hd)
  obtain ⟨i0, ei0⟩ := is_v g1
  obtain rfl : w0 = (.int i0) := Option.some.inj ei0
  obtain ⟨i1, ei1⟩ := is_v t1
  obtain rfl : w1 = (.int i1) := Option.some.inj ei1
  obtain ⟨n, o, h1, h2, h3, _, L, rfl, ⟨rfl, N⟩, hq⟩ := zq_rm0 l s _ hw tables_1 i0 i1 s.heap p e ha hc hk s m _ below hf ((Spec.applies_iff_loose hf).mp happ).1 ⟨rfl, State.Warmed39.refl s, rfl⟩ trivial
  refine ⟨n, _, h1, h2, h3, hpost _ _ _ _ _ _ ⟨Cond.after_iff.mpr rfl, Cond.after_iff.mpr (eq_i res_at (Term.int_eval (1)) rfl), trivial⟩ ⟨hq.1, hq.2.1, (hq.2.2.sift fun y hy => Or.inr (N y hy)).mono (by decide) (by decide)⟩⟩
theorem main_1_1 : Claimed_1_1 := zq_comes fun _ _ _ _ _ _ h hF => ⟨h.1, hF⟩
theorem main_1_2 : Claimed_1_2 := zq_comes fun _ _ _ _ _ _ h hF => ⟨h.2.1, hF⟩
end Jvm.Pilot.@@N@@
namespace Jvm.Pilot.@@N@@
open Jvm Jvm.ClassFile Sem Op Lib Jvm.Free Jvm.Stand Jvm.Pilot.@@N@@.Jvm.D
/-! MADE BY PROGRAM (witnessworld.py) out of the Statement's table words and the real class files: 14 classes; the members and pool entries that the words name. The judged class is class 1, her method 1. -/
namespace start1
open Jvm.ClassFile
def u (s : String) : CpInfo := .utf8 (stringToUtf16 s)
/-- a pool by its gaps: so many unusable entries, then the entry; so many at the end -/
def gap : Nat → List CpInfo → List CpInfo
  | 0, r => r
  | n + 1, r => .unusable :: gap n r
def poolList (es : List (Nat × CpInfo)) (last : Nat) : List CpInfo := es.foldr (fun e r => gap e.1 (e.2 :: r)) (gap last [])
def pool (es : List (Nat × CpInfo)) (last : Nat) : Array CpInfo := ⟨poolList es last⟩
def fileOf (pool : Array CpInfo) (this : Nat) (attrs : Array Attribute := #[]) (ms : Array MethodInfo := #[]) (fl : Nat := 33) (sup : Nat := 0) (ifs : Array Nat := #[]) (fds : Array FieldInfo := #[]) : ClassFile where
  minorVersion := 0
  majorVersion := 65
  constantPool := pool
  accessFlags := fl
  thisClass := this
  superClass := sup
  interfaces := ifs
  fields := fds
  methods := ms
  attributes := attrs
def plain (name : String) (sup : Option ClassId) : Class where
  name := name
  kind := .ordinary
  loader := none
  accessFlags := 33
  super := sup
  interfaces := #[]
  cf := none
  fields := #[]
  methods := #[]
  instanceTypes := #[]
  staticTypes := #[]
  resolved := #[]
  callSites := []
  init := .initialized
  statics := none
  mirror := none

def pool0 : Array CpInfo := pool [(5, u "<init>"), (0, u "()V"), (1, .class_ 10), (1, u "java/lang/Object")] 113

def k0m0 : Method := { name := "<init>", desc := "()V", sig := { parameters := [], returnType := none }, accessFlags := 1, code := none }
/-- java/lang/Object -/
def k0 : Class := { plain "java/lang/Object" none with
  accessFlags := 33
  interfaces := #[]
  cf := some (fileOf pool0 8 #[] #[{ accessFlags := 1, nameIndex := 5, descriptorIndex := 6, attributes := #[] }] 33 0 #[] #[])
  fields := #[]
  methods := #[k0m0]
  instanceTypes := #[]
  staticTypes := #[]
  resolved := Array.replicate 124 none
  statics := none }

def pool1 : Array CpInfo := pool [(2, .class_ 4), (1, u "java/lang/Object"), (0, u "<init>"), (0, u "()V"), (0, .integer 2147483647), (0, .methodref 9 10), (0, .class_ 11), (0, .nameAndType 12 13), (0, u "com/example/clearline/clearline/formats/TableHash"), (0, u "slotOf"), (0, u "(II)I"), (0, .long 2654435769), (1, .long 4294967295), (1, .class_ 19), (0, u "com/example/clearline/clearline/formats/TableHashSlotOfPinLaw"), (2, u "law"), (0, u "(II)Z")] 3

def k1m0 : Method := { name := "<init>", desc := "()V", sig := { parameters := [], returnType := none }, accessFlags := 1, code := none }
def k1c1 : Code := { maxStack := 4, maxLocals := 8, code := code, exceptionTable := #[], attributes := #[] }
def k1m1 : Method := { name := "law", desc := "(II)Z", sig := { parameters := [.int, .int], returnType := some .boolean }, accessFlags := 9, code := some k1c1 }
/-- com/example/clearline/clearline/formats/TableHashSlotOfPinLaw -/
def k1 : Class := { plain "com/example/clearline/clearline/formats/TableHashSlotOfPinLaw" (some 0) with
  accessFlags := 49
  interfaces := #[]
  cf := some (fileOf pool1 18 #[] #[{ accessFlags := 1, nameIndex := 5, descriptorIndex := 6, attributes := #[] }, { accessFlags := 9, nameIndex := 22, descriptorIndex := 23, attributes := #[] }] 49 2 #[] #[])
  fields := #[]
  methods := #[k1m0, k1m1]
  instanceTypes := #[]
  staticTypes := #[]
  resolved := Array.replicate 27 none
  statics := none }

def pool2 : Array CpInfo := pool [(2, .class_ 4), (1, u "java/lang/Object"), (3, .class_ 10), (1, u "com/example/clearline/clearline/formats/TableHash"), (0, u "key0"), (0, u "J"), (2, u "key1"), (10, .integer 2654435769), (0, .methodref 28 29), (0, .class_ 30), (0, .nameAndType 31 32), (0, u "java/lang/Integer"), (0, u "numberOfLeadingZeros"), (0, u "(I)I"), (0, .class_ 34), (0, u "com/example/clearline/clearline/formats/TableHash$Sip"), (13, u "LONGEST_PROBE"), (0, u "I"), (6, u "slotOf"), (0, u "(II)I")] 8

def k2c0 : Code := { maxStack := 3, maxLocals := 2, code := prog_78_method_3_code, exceptionTable := #[], attributes := #[] }
def k2m0 : Method := { name := "slotOf", desc := "(II)I", sig := { parameters := [.int, .int], returnType := some .int }, accessFlags := 8, code := some k2c0 }
/-- com/example/clearline/clearline/formats/TableHash -/
def k2 : Class := { plain "com/example/clearline/clearline/formats/TableHash" (some 0) with
  accessFlags := 48
  interfaces := #[]
  cf := some (fileOf pool2 8 #[.nestMembers #[33]] #[{ accessFlags := 8, nameIndex := 56, descriptorIndex := 57, attributes := #[] }] 48 2 #[] #[{ accessFlags := 24, nameIndex := 48, descriptorIndex := 49, attributes := #[] }, { accessFlags := 18, nameIndex := 11, descriptorIndex := 12, attributes := #[] }, { accessFlags := 18, nameIndex := 15, descriptorIndex := 12, attributes := #[] }])
  fields := #[{ name := "LONGEST_PROBE", type := .int, accessFlags := 24, slot := 0, constantValue := 0 }, { name := "key0", type := .long, accessFlags := 18, slot := 0, constantValue := 0 }, { name := "key1", type := .long, accessFlags := 18, slot := 1, constantValue := 0 }]
  methods := #[k2m0]
  instanceTypes := #[.long, .long]
  staticTypes := #[.int]
  resolved := Array.replicate 66 none
  statics := none }

def pool3 : Array CpInfo := pool [(1, .class_ 2), (0, u "java/io/Serializable"), (0, .class_ 4), (0, u "java/lang/Object")] 2

/-- java/io/Serializable -/
def k3 : Class := { plain "java/io/Serializable" (some 0) with
  accessFlags := 1537
  interfaces := #[]
  cf := some (fileOf pool3 1 #[] #[] 1537 3 #[] #[])
  fields := #[]
  methods := #[]
  instanceTypes := #[]
  staticTypes := #[]
  resolved := Array.replicate 7 none
  statics := none }

def pool4 : Array CpInfo := pool [(2, .class_ 4), (1, u "java/lang/Object"), (0, u "<init>"), (0, u "()V"), (1, .class_ 10), (1, u "java/lang/Number"), (2, .class_ 14), (0, u "java/io/Serializable"), (0, u "serialVersionUID"), (0, u "J")] 20

def k4m0 : Method := { name := "<init>", desc := "()V", sig := { parameters := [], returnType := none }, accessFlags := 1, code := none }
/-- java/lang/Number -/
def k4 : Class := { plain "java/lang/Number" (some 0) with
  accessFlags := 1057
  interfaces := #[3]
  cf := some (fileOf pool4 8 #[] #[{ accessFlags := 1, nameIndex := 5, descriptorIndex := 6, attributes := #[] }] 1057 2 #[13] #[{ accessFlags := 26, nameIndex := 15, descriptorIndex := 16, attributes := #[] }])
  fields := #[{ name := "serialVersionUID", type := .long, accessFlags := 26, slot := 0, constantValue := 0 }]
  methods := #[k4m0]
  instanceTypes := #[]
  staticTypes := #[.long]
  resolved := Array.replicate 37 none
  statics := none }

def pool5 : Array CpInfo := pool [(1, .class_ 2), (0, u "java/lang/Comparable"), (0, .class_ 4), (0, u "java/lang/Object")] 7

/-- java/lang/Comparable -/
def k5 : Class := { plain "java/lang/Comparable" (some 0) with
  accessFlags := 1537
  interfaces := #[]
  cf := some (fileOf pool5 1 #[] #[] 1537 3 #[] #[])
  fields := #[]
  methods := #[]
  instanceTypes := #[]
  staticTypes := #[]
  resolved := Array.replicate 12 none
  statics := none }

def pool6 : Array CpInfo := pool [(1, .class_ 2), (0, u "java/lang/constant/Constable"), (0, .class_ 4), (0, u "java/lang/Object")] 6

/-- java/lang/constant/Constable -/
def k6 : Class := { plain "java/lang/constant/Constable" (some 0) with
  accessFlags := 1537
  interfaces := #[]
  cf := some (fileOf pool6 1 #[] #[] 1537 3 #[] #[])
  fields := #[]
  methods := #[]
  instanceTypes := #[]
  staticTypes := #[]
  resolved := Array.replicate 11 none
  statics := none }

def pool7 : Array CpInfo := pool [(1, .class_ 2), (0, u "java/lang/constant/ConstantDesc"), (0, .class_ 4), (0, u "java/lang/Object")] 32

/-- java/lang/constant/ConstantDesc -/
def k7 : Class := { plain "java/lang/constant/ConstantDesc" (some 0) with
  accessFlags := 1537
  interfaces := #[]
  cf := some (fileOf pool7 1 #[] #[] 1537 3 #[] #[])
  fields := #[]
  methods := #[]
  instanceTypes := #[]
  staticTypes := #[]
  resolved := Array.replicate 37 none
  statics := none }

def pool8 : Array CpInfo := pool [(1, .class_ 2), (0, u "java/lang/Integer"), (16, u "digits"), (0, u "[C"), (32, u "numberOfLeadingZeros"), (0, u "(I)I"), (30, u "DigitOnes"), (0, u "[B"), (2, u "DigitTens"), (99, .class_ 190), (0, u "java/lang/Integer$IntegerCache"), (3, u "I"), (8, .class_ 204), (0, u "java/lang/Number"), (2, u "value"), (56, .integer 65536), (37, u "TYPE"), (0, u "Ljava/lang/Class;"), (0, .class_ 305), (0, u "java/lang/Comparable"), (0, .class_ 307), (0, u "java/lang/constant/Constable"), (0, .class_ 309), (0, u "java/lang/constant/ConstantDesc"), (0, u "MIN_VALUE"), (1, u "MAX_VALUE"), (3, u "SIZE"), (1, u "BYTES"), (1, u "serialVersionUID"), (0, u "J")] 131

def k8c0 : Code := { maxStack := 3, maxLocals := 2, code := jdk_33_method_47_code, exceptionTable := #[], attributes := #[] }
def k8m0 : Method := { name := "numberOfLeadingZeros", desc := "(I)I", sig := { parameters := [.int], returnType := some .int }, accessFlags := 9, code := some k8c0 }
/-- java/lang/Integer -/
def k8 : Class := { plain "java/lang/Integer" (some 4) with
  accessFlags := 49
  interfaces := #[5, 6, 7]
  cf := some (fileOf pool8 1 #[.nestMembers #[189]] #[{ accessFlags := 9, nameIndex := 53, descriptorIndex := 54, attributes := #[] }] 49 203 #[304, 306, 308] #[{ accessFlags := 25, nameIndex := 310, descriptorIndex := 194, attributes := #[] }, { accessFlags := 25, nameIndex := 312, descriptorIndex := 194, attributes := #[] }, { accessFlags := 25, nameIndex := 302, descriptorIndex := 303, attributes := #[] }, { accessFlags := 24, nameIndex := 19, descriptorIndex := 20, attributes := #[] }, { accessFlags := 24, nameIndex := 89, descriptorIndex := 86, attributes := #[] }, { accessFlags := 24, nameIndex := 85, descriptorIndex := 86, attributes := #[] }, { accessFlags := 18, nameIndex := 207, descriptorIndex := 194, attributes := #[] }, { accessFlags := 25, nameIndex := 316, descriptorIndex := 194, attributes := #[] }, { accessFlags := 25, nameIndex := 318, descriptorIndex := 194, attributes := #[] }, { accessFlags := 26, nameIndex := 320, descriptorIndex := 321, attributes := #[] }])
  fields := #[{ name := "MIN_VALUE", type := .int, accessFlags := 25, slot := 0, constantValue := 0 }, { name := "MAX_VALUE", type := .int, accessFlags := 25, slot := 1, constantValue := 0 }, { name := "TYPE", type := (.object "java/lang/Class"), accessFlags := 25, slot := 2, constantValue := 0 }, { name := "digits", type := (.array .char), accessFlags := 24, slot := 3, constantValue := 0 }, { name := "DigitTens", type := (.array .byte), accessFlags := 24, slot := 4, constantValue := 0 }, { name := "DigitOnes", type := (.array .byte), accessFlags := 24, slot := 5, constantValue := 0 }, { name := "value", type := .int, accessFlags := 18, slot := 0, constantValue := 0 }, { name := "SIZE", type := .int, accessFlags := 25, slot := 6, constantValue := 0 }, { name := "BYTES", type := .int, accessFlags := 25, slot := 7, constantValue := 0 }, { name := "serialVersionUID", type := .long, accessFlags := 26, slot := 8, constantValue := 0 }]
  methods := #[k8m0]
  instanceTypes := #[.int]
  staticTypes := #[.int, .int, (.object "java/lang/Class"), (.array .char), (.array .byte), (.array .byte), .int, .int, .long]
  resolved := Array.replicate 453 none
  statics := none }

def pool9 : Array CpInfo := pool [(1, u "java/lang/Cloneable"), (0, .class_ 1), (0, u "java/lang/Object"), (0, .class_ 3)] 3

/-- java/lang/Cloneable -/
def k9 : Class := { plain "java/lang/Cloneable" (some 0) with
  accessFlags := 1537
  interfaces := #[]
  cf := some (fileOf pool9 2 #[] #[] 1537 4 #[] #[])
  fields := #[]
  methods := #[]
  instanceTypes := #[]
  staticTypes := #[]
  resolved := Array.replicate 8 none
  statics := none }

/-- the primitive byte -/
def k10 : Class := { plain "byte" none with kind := .primitive 'B', accessFlags := 0x411 }
/-- [B -/
def k11 : Class := { plain "[B" (some 0) with kind := .array 10 .byte, interfaces := #[9, 3], accessFlags := 1041 }

/-- the primitive int -/
def k12 : Class := { plain "int" none with kind := .primitive 'I', accessFlags := 0x411 }
/-- [I -/
def k13 : Class := { plain "[I" (some 0) with kind := .array 12 .int, interfaces := #[9, 3], accessFlags := 1041 }

def heap : Heap := #[]
def classes : Array Class := #[k0, k1, k2, k3, k4, k5, k6, k7, k8, k9, k10, k11, k12, k13]
def interned : List (Array UInt16 × Addr) := []
def slotsUsed : Nat := 0
def theMethod : MethodId := ⟨1, 1⟩
def args0 : Array Value := #[.int 5, .int 7]
def aboutOver (below : List Frame) : State where
  vm := { classes := classes, interned := interned.toArray }
  heap := heap
  slotsUsed := slotsUsed
  threads := #[{ frames := .invoking theMethod args0 :: below }]
def below0 : List Frame := [.native { method := ⟨0, 0⟩, args := #[] }]
def about1 : State := aboutOver below0
def p0 : Program := .bare "" "" ""
def e0 : Env := launch0.env 0 0 0
theorem w_frames : about1.frames = Frame.invoking theMethod args0 :: below0 := rfl
set_option maxRecDepth 65536 in
theorem w_args : argsFit about1.vm theMethod args0 = true := by decide +kernel
set_option maxRecDepth 65536 in
theorem w_heap : heapFits about1 = true := by decide +kernel
set_option maxRecDepth 65536 in
theorem w_runnable : about1.curStatus? = some .runnable := by decide +kernel
set_option maxRecDepth 65536 in
theorem w_alone : about1.alone = true := by decide +kernel
set_option maxRecDepth 65536 in
theorem w_named : about1.methodNamed? x = some theMethod := by decide +kernel
set_option maxRecDepth 65536 in
theorem w_hears : about1.hears theMethod below0 = true := by decide +kernel
set_option maxRecDepth 65536 in
theorem w_ripe : about1.ripe theMethod args0 below0 = true := by decide +kernel
theorem w_running : about1.status = .running := rfl
set_option maxRecDepth 65536 in
theorem w_room : about1.hasRoom e0.platform room_1 = true :=
  launch0.hasRoom_least _ room_1 (by decide +kernel) (by decide +kernel) (by decide +kernel) (by decide +kernel) (by decide +kernel) (by decide +kernel)
theorem allAtoms_all (ts : List Jvm.Cond) (a : Array Jvm.Value) (st : Jvm.State) : (allAtoms ts).before a st = ts.all (fun c => c.before a st) := by
  induction ts with
  | nil => rfl
  | cons c t ih =>
    show (Jvm.Cond.and c (allAtoms t)).before a st = _
    rw [Jvm.Cond.before_and, ih, List.all_cons]
def words1 : List Jvm.Cond := Jvm.Cond.code x code maxLocals ret :: tables_1
/-- a 'code' word, met by the world's own term for the bytes: nothing is compared byte by byte -/
theorem code_word {y : MethodName} {bytes : ByteArray} {mx : Nat} {rt : Option FieldType} {a : Array Value} {s : State} {m : MethodId} {meth : Method} {c : Code} (h1 : s.methodNamed? y = some m) (h2 : s.vm.method? m = some meth) (h3 : meth.code = some c) (h4 : c.code = bytes)
    (h5 : (c.maxLocals == mx && c.exceptionTable.isEmpty && decide (c.maxStack ≤ mostOperands) && decide (meth.sig.returnType = rt) && !meth.locks && decide (parseMethodDescriptor y.desc = some meth.sig)) = true) : (Jvm.Cond.code y bytes mx rt).before a s = true := by
  simp only [Bool.and_eq_true, beq_iff_eq, Bool.not_eq_true', decide_eq_true_eq] at h5
  obtain ⟨⟨⟨⟨⟨g1, g2⟩, g3⟩, g4⟩, g5⟩, g6⟩ := h5
  simp [Cond.before, Cond.holds, Cond.value, h1, h2, h3, h4, g1, g2, g3, g4, g5, g6]
def isCode : Jvm.Cond → Bool
  | .code _ _ _ _ => true
  | _ => false
theorem all_split {L : List Jvm.Cond} {P : Jvm.Cond → Bool} (h1 : L.all (fun c => isCode c || P c) = true) (h2 : ∀ c ∈ L.filter isCode, P c = true) : L.all P = true := by
  refine List.all_eq_true.mpr fun c hc => ?_
  have h := List.all_eq_true.mp h1 c hc
  rcases Bool.eq_false_or_eq_true (isCode c) with hi | hi
  · exact h2 c (List.mem_filter.mpr ⟨hc, hi⟩)
  · simpa [hi] using h
set_option maxRecDepth 65536 in
theorem w_c0 : (Jvm.Cond.code x code maxLocals ret).before args0 about1 = true := code_word (m := ⟨1, 1⟩) (meth := k1m1) (c := k1c1) (by decide +kernel) rfl rfl rfl (by decide +kernel)
set_option maxRecDepth 65536 in
theorem w_c1 : (Jvm.Cond.code ({ cls := "com/example/clearline/clearline/formats/TableHash", name := "slotOf", desc := "(II)I" } : Jvm.MethodName) prog_78_method_3_code (2 : Nat) (Option.some Jvm.ClassFile.FieldType.int)).before args0 about1 = true := code_word (m := ⟨2, 0⟩) (meth := k2m0) (c := k2c0) (by decide +kernel) rfl rfl rfl (by decide +kernel)
set_option maxRecDepth 65536 in
theorem w_c2 : (Jvm.Cond.code ({ cls := "java/lang/Integer", name := "numberOfLeadingZeros", desc := "(I)I" } : Jvm.MethodName) jdk_33_method_47_code (2 : Nat) (Option.some Jvm.ClassFile.FieldType.int)).before args0 about1 = true := code_word (m := ⟨8, 0⟩) (meth := k8m0) (c := k8c0) (by decide +kernel) rfl rfl rfl (by decide +kernel)
def codes1 : List Jvm.Cond := [Jvm.Cond.code x code maxLocals ret, Jvm.Cond.code ({ cls := "com/example/clearline/clearline/formats/TableHash", name := "slotOf", desc := "(II)I" } : Jvm.MethodName) prog_78_method_3_code (2 : Nat) (Option.some Jvm.ClassFile.FieldType.int), Jvm.Cond.code ({ cls := "java/lang/Integer", name := "numberOfLeadingZeros", desc := "(I)I" } : Jvm.MethodName) jdk_33_method_47_code (2 : Nat) (Option.some Jvm.ClassFile.FieldType.int)]
set_option maxRecDepth 65536 in
theorem codes_eq : words1.filter isCode = codes1 := rfl
theorem w_codes : ∀ c ∈ words1.filter isCode, c.before args0 about1 = true := by
  rw [codes_eq]
  intro c hc
  simp only [codes1, List.mem_cons, List.not_mem_nil, or_false] at hc
  rcases hc with rfl | rfl | rfl
  · exact w_c0
  · exact w_c1
  · exact w_c2
set_option maxRecDepth 65536 in
theorem w_t1 : words1.all (fun c => isCode c || c.before args0 about1) = true := by decide +kernel
theorem w_tables : (allAtoms (Jvm.Cond.code x code maxLocals ret :: tables_1)).before args0 about1 = true := by
  rw [allAtoms_all]
  show words1.all (fun c => c.before args0 about1) = true
  refine all_split ?_ w_codes
  rw [w_t1]
set_option maxRecDepth 65536 in
theorem w_case : (Jvm.Cond.and given_1 narrow_1).before args0 about1 = true := by decide +kernel
theorem w_applies : (headSpec (Jvm.Cond.code x code maxLocals ret :: tables_1) room_1).applies x e0.platform about1 = true :=
  (Spec.applies_iff w_frames).mpr ⟨w_running, w_runnable, w_alone, w_named, w_hears, w_ripe, w_room, w_tables⟩
theorem atStart : AtStart classFile x code maxLocals ret World_1 tables_1 room_1 Calls_1 rest_1 Pre_1 launch0 p0 e0 about1 theMethod args0 below0 :=
  ⟨lists_1, trivial, launch0.admits_env _ _ _, launch0.least_env, fairChoices_fair.cas, fairChoices_fair.clock, w_frames, w_args, w_heap, w_applies, trivial, trivial, w_case⟩
end start1
theorem witness_1 : WitnessClaimed_1 := ⟨start1.p0, start1.e0, start1.about1, start1.theMethod, start1.args0, start1.below0, start1.atStart⟩
end Jvm.Pilot.@@N@@
