import JvmDerived
import JvmDerived.Pilot.@@N@@Statement
import JvmDerived.Pilot.@@N@@Code
set_option linter.unusedVariables false
set_option linter.unusedSimpArgs false
namespace Jvm.RoadKit
open Sem ClassFile Op Lib Jvm.Stand Jvm.Free Jvm.LawKit
section New
variable {p : Program} {l : Launch} {e : Env} {R : Room} {s : State} {m : MethodId} {args : Array Value} {below : List Frame} {meth : Method} {c : Code} {T : State} {locs : List Loc} {cells slots : Nat}
theorem retI (X : Stand p l e R s m args below meth c T locs cells slots) (hx : p.tables.exec = Jvm.exec) {pc : Nat} {Ls : Array Slot} {z : Int32} {rest : List Value} (hret : meth.sig.returnType = some .int) (hd : decode c.code pc = .ok (.ireturn, 1)) {fs : List Frame}
    (hl : ∀ (f : JFrame) (acts : List Action), f.method = m → f.locked = none → f.entered = [] → (doReturn e (T.setTop f) acts (some (.int z))).1 = T.setFrames fs) : Steps p.tables e below (T.setTop (mkF m pc Ls (.int z :: rest))) (T.setFrames fs) := by
  have hm' : T.vm.method? m = some meth := X.method'
  have hn : narrow .int (.int z) = .int z := rfl
  show Steps p.tables e below (T.setTop { method := m, pc := pc, locals := Ls, stack := _ :: rest, locked := none }) _
  jvm_step X.here [X.here.top, hx, hd, hm', hret, hn]
  first | (intro acts; rw [hl _ acts rfl rfl rfl]) | rw [hl _ _ rfl rfl rfl]
  exact Steps.refl _
end New
end Jvm.RoadKit
namespace Jvm.Pilot.@@N@@
open Jvm Jvm.ClassFile Sem Op Lib Jvm.Free Jvm.Stand Jvm.LawKit Jvm.RoadKit Bundle Jvm.Pilot.@@N@@.Jvm.D
section Own
variable {p : Program} {l : Launch} {e : Env} {R : Room} {s : State} {m : MethodId} {args : Array Value} {below : List Frame} {meth : Method} {c : Code} {T : State} {locs : List Loc} {cells slots : Nat} {Z : State} {a0 : Array Value} {h : Heap} {Q : Option Value → Heap → List Loc → Prop} {C N : Nat}
/-- from the state U the run comes to this invocation's end, which returns, and Q holds of the value, the heap and the written places -/
def zq_Go (p : Program) (e : Env) (below : List Frame) (s : State) (Q : Option Value → Heap → List Loc → Prop) (C N : Nat) (U : State) : Prop :=
  ∃ t o, Steps p.tables e below U t ∧ t.status = .running ∧ Ended t below o ∧ ∃ v L, o = .returned v ∧ Q v t.heap L ∧ FrameEnd s o t L C N
theorem zq_go {A B : State} (k : ∀ t, Steps p.tables e below A t → Steps p.tables e below B t) (h : zq_Go p e below s Q C N A) : zq_Go p e below s Q C N B := by
  obtain ⟨t, o, h1, r⟩ := h
  exact ⟨t, o, k t h1, r⟩
theorem zq_out (X : Stand p l e R s m args below meth c T locs cells slots) (hl : meth.locks = false) {v : Option Value} (hv : meth.sig.returnType = none → v = none) {A : State}
    (k : ∀ fs, (∀ (f : JFrame) (acts : List Action), f.method = m → f.locked = none → f.entered = [] → (doReturn e (T.setTop f) acts v).1 = T.setFrames fs) → Steps p.tables e below A (T.setFrames fs)) (hq : Q v T.heap locs) (hc : cells ≤ C) (hs : slots ≤ N) : zq_Go p e below s Q C N A := by
  obtain ⟨fs, hr, hrun, hended, hW, hsame⟩ := X.leave (v := v) hv hl
  exact ⟨_, _, k fs hr, hrun, hended, v, locs, rfl, hq, ⟨_, rfl⟩, hW, hsame.mono hc hs⟩
theorem zq_retN (X : Stand p l e R s m args below meth c T locs cells slots) (hx : p.tables.exec = Jvm.exec) (hl : meth.locks = false) {pc : Nat} {Ls : Array Slot} {z : Int32} {t : FieldType} {rest : List Value} (hret : meth.sig.returnType = some t) (ht : t = .boolean ∨ t = .byte ∨ t = .char ∨ t = .short)
    (hd : decode c.code pc = .ok (.ireturn, 1)) (hq : Q (some (.int (nar t z))) T.heap locs) (hc : cells ≤ C) (hs : slots ≤ N) : zq_Go p e below s Q C N (T.setTop (mkF m pc Ls (.int z :: rest))) :=
  zq_out X hl (fun h => by rw [hret] at h; cases h) (fun fs hr => retN X hx hret ht hd hr) hq hc hs
theorem zq_retI (X : Stand p l e R s m args below meth c T locs cells slots) (hx : p.tables.exec = Jvm.exec) (hl : meth.locks = false) {pc : Nat} {Ls : Array Slot} {z : Int32} {rest : List Value} (hret : meth.sig.returnType = some .int)
    (hd : decode c.code pc = .ok (.ireturn, 1)) (hq : Q (some (.int z)) T.heap locs) (hc : cells ≤ C) (hs : slots ≤ N) : zq_Go p e below s Q C N (T.setTop (mkF m pc Ls (.int z :: rest))) :=
  zq_out X hl (fun h => by rw [hret] at h; cases h) (fun fs hr => retI X hx hret hd hr) hq hc hs
theorem zq_retJ (X : Stand p l e R s m args below meth c T locs cells slots) (hx : p.tables.exec = Jvm.exec) (hl : meth.locks = false) {pc : Nat} {Ls : Array Slot} {z : Int64} (hret : meth.sig.returnType = some .long)
    (hd : decode c.code pc = .ok (.lreturn, 1)) (hq : Q (some (.long z)) T.heap locs) (hc : cells ≤ C) (hs : slots ≤ N) : zq_Go p e below s Q C N (T.setTop (mkF m pc Ls [.long z])) :=
  zq_out X hl (fun h => by rw [hret] at h; cases h) (fun fs hr => X.lreturnOut hx hret hd hr) hq hc hs
theorem zq_retA (X : Stand p l e R s m args below meth c T locs cells slots) (hx : p.tables.exec = Jvm.exec) (hl : meth.locks = false) {pc : Nat} {Ls : Array Slot} {w : Value} {t : FieldType} (hw : w.isRef = true) (hret : meth.sig.returnType = some t) (ht : t.isReference = true)
    (hd : decode c.code pc = .ok (.areturn, 1)) (hq : Q (some w) T.heap locs) (hc : cells ≤ C) (hs : slots ≤ N) : zq_Go p e below s Q C N (T.setTop (mkF m pc Ls [w])) :=
  zq_out X hl (fun h => by rw [hret] at h; cases h) (fun fs hr => X.areturnOut hx hw hret ht hd hr) hq hc hs
theorem zq_ret0 (X : Stand p l e R s m args below meth c T locs cells slots) (hx : p.tables.exec = Jvm.exec) (hl : meth.locks = false) {pc : Nat} {Ls : Array Slot} (hret : meth.sig.returnType = none)
    (hd : decode c.code pc = .ok (.return_, 1)) (hq : Q none T.heap locs) (hc : cells ≤ C) (hs : slots ≤ N) : zq_Go p e below s Q C N (T.setTop (mkF m pc Ls [])) :=
  zq_out X hl (fun _ => rfl) (fun fs hr => X.returnOut hx hret hd hr) hq hc hs
/-- a method's contract, from the heap h0, for the arguments a -/
abbrev zq_Met (l : Launch) (Z : State) (y : MethodName) (bytes : ByteArray) (maxL : Nat) (ret : Option FieldType) (ws : List Jvm.Cond) (rm : Room) (a : Array Value) (h0 : Heap) (Q : Option Value → Heap → List Loc → Prop) : Prop :=
  MetFree l y (head1 (Jvm.Cond.code y bytes maxL ret :: ws) rm) (fun a' U => a' = a ∧ Z.Warmed39 U.vm ∧ U.heap = h0) (fun _ _ _ _ _ => True) (fun _ U o U' => ∃ v L, o = .returned v ∧ Q v U'.heap L ∧ FrameEnd U o U' L rm.cells rm.slots)
theorem zq_body {y : MethodName} {bytes : ByteArray} {maxL : Nat} {ret : Option FieldType} {ws : List Jvm.Cond} {rm : Room} {a : Array Value} {h0 : Heap} (hpl : plainFor y = true)
    (body : ∀ (p : Program) (e : Env) (s : State) (m : MethodId) (below : List Frame) (meth : Method) (c : Code) (s₁ : State), p.tables.exec = Jvm.exec → Z.Warmed39 s.vm → c.code = bytes → c.maxLocals = maxL → meth.sig.returnType = ret → meth.locks = false → s.vm.findClass y.cls = some m.cls → meth.name = y.name → Stand p l e rm s m a below meth c s₁ [] 0 0 → s₁.heap = h0 → zq_Go p e below s Q rm.cells rm.slots (s₁.setTop (entryFrame m a maxL))) :
    zq_Met l Z y bytes maxL ret ws rm a h0 Q := by
  refine MetFree.of_bodySF hpl hisR ?_
  intro p e s m args below meth c s₁ Bd hml0 hP hK
  obtain ⟨rfl, hZ, hh⟩ := hP
  exact body p e s m below meth c s₁ Bd.exec hZ Bd.bytes hml0 Bd.returns Bd.notSynchronized (findClass_of_methodNamed Bd.named) (name_of_methodNamed Bd.named Bd.method).1 (Stand.of_body Bd) (by rw [← hh, Bd.state]; rfl)
/-- a callee that leaves no trace and returns r -/
def zq_pure (r : Value) (h0 : Heap) : Option Value → Heap → List Loc → Prop := fun v h L => v = some r ∧ L = [] ∧ h = h0
theorem zq_callS (X : Stand p l e R s m args below meth c T locs cells slots) (hx : p.tables.exec = Jvm.exec) (hZ : Z.Warmed39 s.vm) {own : String} {index W : Nat} {y : MethodName} {bytes : ByteArray} {maxL : Nat} {ret : Option FieldType} {rm : Room} (hown : s.vm.findClass own = some m.cls)
    (w1 : (Cond.methodLink own index y).before a0 Z = true) (w2 : (Cond.static y).before a0 Z = true) (w3 : (Cond.initialized y.cls).before a0 Z = true) (w4 : (Cond.code y bytes maxL ret).before a0 Z = true) (hy : y.cls ≠ "java/lang/invoke/MethodHandle" ∧ y.cls ≠ "java/lang/invoke/VarHandle") {argsL rest : List Value}
    (hM : zq_Met l Z y bytes maxL ret [] rm argsL.toArray h Q) (eT : T.heap = h) (hf : rm.frames + 1 ≤ R.frames) (hl : W + (maxL + 11) + rm.locals ≤ R.locals) (hcells : cells + rm.cells ≤ R.cells) (hslots : slots + rm.slots ≤ R.slots)
    {g : JFrame} (hg : g.method = m) (hsize : g.locals.size = c.maxLocals) (hlen : ∀ sig, parseMethodDescriptor y.desc = some sig → argsL.length = sig.parameters.length) (hstack : g.stack = argsL.reverse ++ rest) (hW : 2 * g.monitorRoom + (rest.map fun v => v.category).sum ≤ W) (hdg : decode c.code g.pc = .ok (.invokestatic index, 3)) :
    ∃ (v : Option Value) (T' : State) (L : List Loc), Stand p l e R s m args below meth c T' (locs ++ L) (cells + rm.cells) (slots + rm.slots) ∧ Q v T'.heap L ∧ ∀ target, Steps p.tables e below (T'.setTop { g with pc := g.pc + 3, stack := v.toList ++ rest }) target → Steps p.tables e below (T.setTop g) target := by
  obtain ⟨v, vm₁, ⟨T', L', k', n'⟩, -, X', ⟨L, hQ, e1, e2, e3⟩, st⟩ := Jvm.LawKit.callS X hx (y := y) hown (mvT hZ w1) (mvT hZ w2) (mvT hZ w3) (mvT hZ w4) hy (backOf (W := W) hM hZ w4 w3 hf hl) hg hsize hlen hstack hW hdg (fun _ _ => ⟨rfl, eT, hcells, hslots⟩)
  dsimp only [Pt.U, Pt.locs, Pt.cells, Pt.slots] at X' hQ e1 e2 e3 st
  subst e1 e2 e3
  exact ⟨v, T', L, X', hQ, st⟩
theorem zq_callP (X : Stand p l e R s m args below meth c T locs cells slots) (hx : p.tables.exec = Jvm.exec) (hZ : Z.Warmed39 s.vm) {own : String} {index W : Nat} {y : MethodName} {bytes : ByteArray} {maxL : Nat} {ret : Option FieldType} {rm : Room} {r : Value} (hown : s.vm.findClass own = some m.cls)
    (w1 : (Cond.methodLink own index y).before a0 Z = true) (w2 : (Cond.static y).before a0 Z = true) (w3 : (Cond.initialized y.cls).before a0 Z = true) (w4 : (Cond.code y bytes maxL ret).before a0 Z = true) (hy : y.cls ≠ "java/lang/invoke/MethodHandle" ∧ y.cls ≠ "java/lang/invoke/VarHandle") {argsL rest : List Value}
    (hM : zq_Met l Z y bytes maxL ret [] rm argsL.toArray h (zq_pure r h)) (eT : T.heap = h) (hf : rm.frames + 1 ≤ R.frames) (hl : W + (maxL + 11) + rm.locals ≤ R.locals) (hcells : rm.cells = 0) (hslots : rm.slots = 0) (hC : cells ≤ R.cells) (hN : slots ≤ R.slots)
    {g : JFrame} (hg : g.method = m) (hsize : g.locals.size = c.maxLocals) (hlen : ∀ sig, parseMethodDescriptor y.desc = some sig → argsL.length = sig.parameters.length) (hstack : g.stack = argsL.reverse ++ rest) (hW : 2 * g.monitorRoom + (rest.map fun v => v.category).sum ≤ W) (hdg : decode c.code g.pc = .ok (.invokestatic index, 3)) :
    ∃ T' : State, Stand p l e R s m args below meth c T' locs cells slots ∧ T'.heap = h ∧ ∀ target, Steps p.tables e below (T'.setTop { g with pc := g.pc + 3, stack := r :: rest }) target → Steps p.tables e below (T.setTop g) target := by
  obtain ⟨v, T', L, X', ⟨rfl, rfl, q⟩, st⟩ := zq_callS X hx hZ hown w1 w2 w3 w4 hy hM eT hf hl (by rw [hcells]; exact hC) (by rw [hslots]; exact hN) hg hsize hlen hstack hW hdg
  rw [hcells, hslots, List.append_nil] at X'
  exact ⟨T', X', q, st⟩
/-- what the law's own contract says: it returns 1, and wrote to new cells alone -/
def zq_one (n0 : Nat) : Option Value → Heap → List Loc → Prop := fun v _ L => v = some (.int 1) ∧ Fr n0 L
end Own
def zq_ten (c : Int32) : Int32 := if c = 48 then 1 else if c = 49 then 1 else if c = 50 then 1 else if c = 51 then 1 else if c = 52 then 1 else if c = 53 then 1 else if c = 54 then 1 else if c = 55 then 1 else if c = 56 then 1 else if c = 57 then 1 else 0
def zq_isd (c : Int32) : Int32 := if c < 48 then 0 else if 57 < c then 0 else 1
theorem zq_eq (c : Int32) : zq_isd c = zq_ten c := by
  unfold zq_isd
  by_cases h1 : c < 48
  · have n : ∀ k : Int32, ¬ k < 48 → ¬ c = k := fun k hk q => hk (q ▸ h1)
    unfold zq_ten
    rw [if_pos h1, if_neg (n 48 (by decide)), if_neg (n 49 (by decide)), if_neg (n 50 (by decide)), if_neg (n 51 (by decide)), if_neg (n 52 (by decide)), if_neg (n 53 (by decide)), if_neg (n 54 (by decide)), if_neg (n 55 (by decide)), if_neg (n 56 (by decide)), if_neg (n 57 (by decide))]
  · by_cases h2 : 57 < c
    · have n : ∀ k : Int32, ¬ 57 < k → ¬ c = k := fun k hk q => hk (q ▸ h2)
      unfold zq_ten
      rw [if_neg h1, if_pos h2, if_neg (n 48 (by decide)), if_neg (n 49 (by decide)), if_neg (n 50 (by decide)), if_neg (n 51 (by decide)), if_neg (n 52 (by decide)), if_neg (n 53 (by decide)), if_neg (n 54 (by decide)), if_neg (n 55 (by decide)), if_neg (n 56 (by decide)), if_neg (n 57 (by decide))]
    · rw [if_neg h1, if_neg h2]
      rw [Int32.lt_iff_toInt_lt] at h1 h2
      simp only [Int32.reduceToInt] at h1 h2
      have h : c = 48 ∨ c = 49 ∨ c = 50 ∨ c = 51 ∨ c = 52 ∨ c = 53 ∨ c = 54 ∨ c = 55 ∨ c = 56 ∨ c = 57 := by
        simp only [← Int32.toInt_inj, Int32.reduceToInt]
        omega
      rcases h with rfl | rfl | rfl | rfl | rfl | rfl | rfl | rfl | rfl | rfl <;> rfl
theorem zq_pn0 : plainName "com/example/clearline/clearline/engine/DocumentNumbersIsDigitPinLaw" = true := by first | (simp [plainName, overriddenIn]; done) | decide +kernel
theorem zq_d1_0 : decode method_2_code 0 = .ok (.iload_n 0, 1) := by decide +kernel
theorem zq_d1_1 : decode method_2_code 1 = .ok (.bipush 48, 2) := by decide +kernel
theorem zq_d1_3 : decode method_2_code 3 = .ok (.if_icmp .eq 57, 3) := by decide +kernel
theorem zq_d1_6 : decode method_2_code 6 = .ok (.iload_n 0, 1) := by decide +kernel
theorem zq_d1_7 : decode method_2_code 7 = .ok (.bipush 49, 2) := by decide +kernel
theorem zq_d1_9 : decode method_2_code 9 = .ok (.if_icmp .eq 51, 3) := by decide +kernel
theorem zq_d1_12 : decode method_2_code 12 = .ok (.iload_n 0, 1) := by decide +kernel
theorem zq_d1_13 : decode method_2_code 13 = .ok (.bipush 50, 2) := by decide +kernel
theorem zq_d1_15 : decode method_2_code 15 = .ok (.if_icmp .eq 45, 3) := by decide +kernel
theorem zq_d1_18 : decode method_2_code 18 = .ok (.iload_n 0, 1) := by decide +kernel
theorem zq_d1_19 : decode method_2_code 19 = .ok (.bipush 51, 2) := by decide +kernel
theorem zq_d1_21 : decode method_2_code 21 = .ok (.if_icmp .eq 39, 3) := by decide +kernel
theorem zq_d1_24 : decode method_2_code 24 = .ok (.iload_n 0, 1) := by decide +kernel
theorem zq_d1_25 : decode method_2_code 25 = .ok (.bipush 52, 2) := by decide +kernel
theorem zq_d1_27 : decode method_2_code 27 = .ok (.if_icmp .eq 33, 3) := by decide +kernel
theorem zq_d1_30 : decode method_2_code 30 = .ok (.iload_n 0, 1) := by decide +kernel
theorem zq_d1_31 : decode method_2_code 31 = .ok (.bipush 53, 2) := by decide +kernel
theorem zq_d1_33 : decode method_2_code 33 = .ok (.if_icmp .eq 27, 3) := by decide +kernel
theorem zq_d1_36 : decode method_2_code 36 = .ok (.iload_n 0, 1) := by decide +kernel
theorem zq_d1_37 : decode method_2_code 37 = .ok (.bipush 54, 2) := by decide +kernel
theorem zq_d1_39 : decode method_2_code 39 = .ok (.if_icmp .eq 21, 3) := by decide +kernel
theorem zq_d1_42 : decode method_2_code 42 = .ok (.iload_n 0, 1) := by decide +kernel
theorem zq_d1_43 : decode method_2_code 43 = .ok (.bipush 55, 2) := by decide +kernel
theorem zq_d1_45 : decode method_2_code 45 = .ok (.if_icmp .eq 15, 3) := by decide +kernel
theorem zq_d1_48 : decode method_2_code 48 = .ok (.iload_n 0, 1) := by decide +kernel
theorem zq_d1_49 : decode method_2_code 49 = .ok (.bipush 56, 2) := by decide +kernel
theorem zq_d1_51 : decode method_2_code 51 = .ok (.if_icmp .eq 9, 3) := by decide +kernel
theorem zq_d1_54 : decode method_2_code 54 = .ok (.iload_n 0, 1) := by decide +kernel
theorem zq_d1_55 : decode method_2_code 55 = .ok (.bipush 57, 2) := by decide +kernel
theorem zq_d1_57 : decode method_2_code 57 = .ok (.if_icmp .ne 7, 3) := by decide +kernel
theorem zq_d1_60 : decode method_2_code 60 = .ok (.iconst 1, 1) := by decide +kernel
theorem zq_d1_61 : decode method_2_code 61 = .ok (.goto 4, 3) := by decide +kernel
theorem zq_d1_64 : decode method_2_code 64 = .ok (.iconst 0, 1) := by decide +kernel
theorem zq_d1_65 : decode method_2_code 65 = .ok (.ireturn, 1) := by decide +kernel
theorem zq_ef1 (m : MethodId) (x0 : Int32) : entryFrame m #[(.int x0)] 1 = mkF m 0 #[.val (.int x0)] [] := by first | (simp [entryFrame, mkF, argsToLocals, Value.category]; done) | rfl
set_option maxRecDepth 65536 in
set_option maxHeartbeats 40000000 in
theorem zq_rm1 (l : Launch) (Z : State) (a0 : Array Value) (hw : ∀ d ∈ tables_1, d.before a0 Z = true) (ws : List Jvm.Cond) (ch : Int32) (h0 : Heap) :
    zq_Met l Z (⟨"com/example/clearline/clearline/engine/DocumentNumbersIsDigitPinLaw", "oneOfTheTenDigits", "(C)Z"⟩ : MethodName) method_2_code 1 (some .boolean) ws ({ frames := 0, cells := 0, slots := 0, locals := 0 } : Room) #[(.int ch)] h0 (zq_pure (.int (zq_ten ch)) h0) := by
  refine zq_body (plainFor_of_name zq_pn0) ?_
  intro p e s m below meth c s₁ hx hZ hby hml hret hlk hown hnm X0 e0
  refine zq_go (fun _ k => castTop (zq_ef1 m ch) k) ?_
  show zq_Go p e below s _ _ _ (s₁.setTop (mkF m 0 #[.val (.int ch)] []))
  refine zq_go (fun _ k => XS.iloadN X0.here hx rfl (hb hby zq_d1_0) rfl k) ?_
  show zq_Go p e below s _ _ _ (s₁.setTop (mkF m 1 #[.val (.int ch)] [(.int ch)]))
  refine zq_go (fun _ k => XS.bipush X0.here hx rfl (hb hby zq_d1_1) k) ?_
  show zq_Go p e below s _ _ _ (s₁.setTop (mkF m 3 #[.val (.int ch)] [(.int (48 : Int32)), (.int ch)]))
  by_cases hc3 : ch = (48 : Int32)
  ·
    refine zq_go (fun _ k => XS.icmpYes X0.here hx rfl (pc0 := 3) (pc' := 60) rfl (hb hby zq_d1_3) rfl (teq hc3).1 (by decide) (by decide) k) ?_
    show zq_Go p e below s _ _ _ (s₁.setTop (mkF m 60 #[.val (.int ch)] []))
    refine zq_go (fun _ k => XS.iconst X0.here hx rfl (hb hby zq_d1_60) k) ?_
    show zq_Go p e below s _ _ _ (s₁.setTop (mkF m 61 #[.val (.int ch)] [(.int (1 : Int32))]))
    refine zq_go (fun _ k => XS.goto X0.here hx rfl (pc0 := 61) (pc' := 65) rfl (hb hby zq_d1_61) (by decide) (by decide) k) ?_
    show zq_Go p e below s _ _ _ (s₁.setTop (mkF m 65 #[.val (.int ch)] [(.int (1 : Int32))]))
    exact zq_retN X0 hx hlk (t := .boolean) hret (by simp) (hb hby zq_d1_65) ⟨by rw [show zq_ten ch = (1 : Int32) from by simp [zq_ten, hc3]]; rfl, rfl, e0⟩ (by decide) (by decide)
  refine zq_go (fun _ k => XS.icmpNo X0.here hx rfl (hb hby zq_d1_3) rfl (feq hc3).1 k) ?_
  show zq_Go p e below s _ _ _ (s₁.setTop (mkF m 6 #[.val (.int ch)] []))
  refine zq_go (fun _ k => XS.iloadN X0.here hx rfl (hb hby zq_d1_6) rfl k) ?_
  show zq_Go p e below s _ _ _ (s₁.setTop (mkF m 7 #[.val (.int ch)] [(.int ch)]))
  refine zq_go (fun _ k => XS.bipush X0.here hx rfl (hb hby zq_d1_7) k) ?_
  show zq_Go p e below s _ _ _ (s₁.setTop (mkF m 9 #[.val (.int ch)] [(.int (49 : Int32)), (.int ch)]))
  by_cases hc9 : ch = (49 : Int32)
  ·
    refine zq_go (fun _ k => XS.icmpYes X0.here hx rfl (pc0 := 9) (pc' := 60) rfl (hb hby zq_d1_9) rfl (teq hc9).1 (by decide) (by decide) k) ?_
    show zq_Go p e below s _ _ _ (s₁.setTop (mkF m 60 #[.val (.int ch)] []))
    refine zq_go (fun _ k => XS.iconst X0.here hx rfl (hb hby zq_d1_60) k) ?_
    show zq_Go p e below s _ _ _ (s₁.setTop (mkF m 61 #[.val (.int ch)] [(.int (1 : Int32))]))
    refine zq_go (fun _ k => XS.goto X0.here hx rfl (pc0 := 61) (pc' := 65) rfl (hb hby zq_d1_61) (by decide) (by decide) k) ?_
    show zq_Go p e below s _ _ _ (s₁.setTop (mkF m 65 #[.val (.int ch)] [(.int (1 : Int32))]))
    exact zq_retN X0 hx hlk (t := .boolean) hret (by simp) (hb hby zq_d1_65) ⟨by rw [show zq_ten ch = (1 : Int32) from by simp [zq_ten, hc3, hc9]]; rfl, rfl, e0⟩ (by decide) (by decide)
  refine zq_go (fun _ k => XS.icmpNo X0.here hx rfl (hb hby zq_d1_9) rfl (feq hc9).1 k) ?_
  show zq_Go p e below s _ _ _ (s₁.setTop (mkF m 12 #[.val (.int ch)] []))
  refine zq_go (fun _ k => XS.iloadN X0.here hx rfl (hb hby zq_d1_12) rfl k) ?_
  show zq_Go p e below s _ _ _ (s₁.setTop (mkF m 13 #[.val (.int ch)] [(.int ch)]))
  refine zq_go (fun _ k => XS.bipush X0.here hx rfl (hb hby zq_d1_13) k) ?_
  show zq_Go p e below s _ _ _ (s₁.setTop (mkF m 15 #[.val (.int ch)] [(.int (50 : Int32)), (.int ch)]))
  by_cases hc15 : ch = (50 : Int32)
  ·
    refine zq_go (fun _ k => XS.icmpYes X0.here hx rfl (pc0 := 15) (pc' := 60) rfl (hb hby zq_d1_15) rfl (teq hc15).1 (by decide) (by decide) k) ?_
    show zq_Go p e below s _ _ _ (s₁.setTop (mkF m 60 #[.val (.int ch)] []))
    refine zq_go (fun _ k => XS.iconst X0.here hx rfl (hb hby zq_d1_60) k) ?_
    show zq_Go p e below s _ _ _ (s₁.setTop (mkF m 61 #[.val (.int ch)] [(.int (1 : Int32))]))
    refine zq_go (fun _ k => XS.goto X0.here hx rfl (pc0 := 61) (pc' := 65) rfl (hb hby zq_d1_61) (by decide) (by decide) k) ?_
    show zq_Go p e below s _ _ _ (s₁.setTop (mkF m 65 #[.val (.int ch)] [(.int (1 : Int32))]))
    exact zq_retN X0 hx hlk (t := .boolean) hret (by simp) (hb hby zq_d1_65) ⟨by rw [show zq_ten ch = (1 : Int32) from by simp [zq_ten, hc3, hc9, hc15]]; rfl, rfl, e0⟩ (by decide) (by decide)
  refine zq_go (fun _ k => XS.icmpNo X0.here hx rfl (hb hby zq_d1_15) rfl (feq hc15).1 k) ?_
  show zq_Go p e below s _ _ _ (s₁.setTop (mkF m 18 #[.val (.int ch)] []))
  refine zq_go (fun _ k => XS.iloadN X0.here hx rfl (hb hby zq_d1_18) rfl k) ?_
  show zq_Go p e below s _ _ _ (s₁.setTop (mkF m 19 #[.val (.int ch)] [(.int ch)]))
  refine zq_go (fun _ k => XS.bipush X0.here hx rfl (hb hby zq_d1_19) k) ?_
  show zq_Go p e below s _ _ _ (s₁.setTop (mkF m 21 #[.val (.int ch)] [(.int (51 : Int32)), (.int ch)]))
  by_cases hc21 : ch = (51 : Int32)
  ·
    refine zq_go (fun _ k => XS.icmpYes X0.here hx rfl (pc0 := 21) (pc' := 60) rfl (hb hby zq_d1_21) rfl (teq hc21).1 (by decide) (by decide) k) ?_
    show zq_Go p e below s _ _ _ (s₁.setTop (mkF m 60 #[.val (.int ch)] []))
    refine zq_go (fun _ k => XS.iconst X0.here hx rfl (hb hby zq_d1_60) k) ?_
    show zq_Go p e below s _ _ _ (s₁.setTop (mkF m 61 #[.val (.int ch)] [(.int (1 : Int32))]))
    refine zq_go (fun _ k => XS.goto X0.here hx rfl (pc0 := 61) (pc' := 65) rfl (hb hby zq_d1_61) (by decide) (by decide) k) ?_
    show zq_Go p e below s _ _ _ (s₁.setTop (mkF m 65 #[.val (.int ch)] [(.int (1 : Int32))]))
    exact zq_retN X0 hx hlk (t := .boolean) hret (by simp) (hb hby zq_d1_65) ⟨by rw [show zq_ten ch = (1 : Int32) from by simp [zq_ten, hc3, hc9, hc15, hc21]]; rfl, rfl, e0⟩ (by decide) (by decide)
  refine zq_go (fun _ k => XS.icmpNo X0.here hx rfl (hb hby zq_d1_21) rfl (feq hc21).1 k) ?_
  show zq_Go p e below s _ _ _ (s₁.setTop (mkF m 24 #[.val (.int ch)] []))
  refine zq_go (fun _ k => XS.iloadN X0.here hx rfl (hb hby zq_d1_24) rfl k) ?_
  show zq_Go p e below s _ _ _ (s₁.setTop (mkF m 25 #[.val (.int ch)] [(.int ch)]))
  refine zq_go (fun _ k => XS.bipush X0.here hx rfl (hb hby zq_d1_25) k) ?_
  show zq_Go p e below s _ _ _ (s₁.setTop (mkF m 27 #[.val (.int ch)] [(.int (52 : Int32)), (.int ch)]))
  by_cases hc27 : ch = (52 : Int32)
  ·
    refine zq_go (fun _ k => XS.icmpYes X0.here hx rfl (pc0 := 27) (pc' := 60) rfl (hb hby zq_d1_27) rfl (teq hc27).1 (by decide) (by decide) k) ?_
    show zq_Go p e below s _ _ _ (s₁.setTop (mkF m 60 #[.val (.int ch)] []))
    refine zq_go (fun _ k => XS.iconst X0.here hx rfl (hb hby zq_d1_60) k) ?_
    show zq_Go p e below s _ _ _ (s₁.setTop (mkF m 61 #[.val (.int ch)] [(.int (1 : Int32))]))
    refine zq_go (fun _ k => XS.goto X0.here hx rfl (pc0 := 61) (pc' := 65) rfl (hb hby zq_d1_61) (by decide) (by decide) k) ?_
    show zq_Go p e below s _ _ _ (s₁.setTop (mkF m 65 #[.val (.int ch)] [(.int (1 : Int32))]))
    exact zq_retN X0 hx hlk (t := .boolean) hret (by simp) (hb hby zq_d1_65) ⟨by rw [show zq_ten ch = (1 : Int32) from by simp [zq_ten, hc3, hc9, hc15, hc21, hc27]]; rfl, rfl, e0⟩ (by decide) (by decide)
  refine zq_go (fun _ k => XS.icmpNo X0.here hx rfl (hb hby zq_d1_27) rfl (feq hc27).1 k) ?_
  show zq_Go p e below s _ _ _ (s₁.setTop (mkF m 30 #[.val (.int ch)] []))
  refine zq_go (fun _ k => XS.iloadN X0.here hx rfl (hb hby zq_d1_30) rfl k) ?_
  show zq_Go p e below s _ _ _ (s₁.setTop (mkF m 31 #[.val (.int ch)] [(.int ch)]))
  refine zq_go (fun _ k => XS.bipush X0.here hx rfl (hb hby zq_d1_31) k) ?_
  show zq_Go p e below s _ _ _ (s₁.setTop (mkF m 33 #[.val (.int ch)] [(.int (53 : Int32)), (.int ch)]))
  by_cases hc33 : ch = (53 : Int32)
  ·
    refine zq_go (fun _ k => XS.icmpYes X0.here hx rfl (pc0 := 33) (pc' := 60) rfl (hb hby zq_d1_33) rfl (teq hc33).1 (by decide) (by decide) k) ?_
    show zq_Go p e below s _ _ _ (s₁.setTop (mkF m 60 #[.val (.int ch)] []))
    refine zq_go (fun _ k => XS.iconst X0.here hx rfl (hb hby zq_d1_60) k) ?_
    show zq_Go p e below s _ _ _ (s₁.setTop (mkF m 61 #[.val (.int ch)] [(.int (1 : Int32))]))
    refine zq_go (fun _ k => XS.goto X0.here hx rfl (pc0 := 61) (pc' := 65) rfl (hb hby zq_d1_61) (by decide) (by decide) k) ?_
    show zq_Go p e below s _ _ _ (s₁.setTop (mkF m 65 #[.val (.int ch)] [(.int (1 : Int32))]))
    exact zq_retN X0 hx hlk (t := .boolean) hret (by simp) (hb hby zq_d1_65) ⟨by rw [show zq_ten ch = (1 : Int32) from by simp [zq_ten, hc3, hc9, hc15, hc21, hc27, hc33]]; rfl, rfl, e0⟩ (by decide) (by decide)
  refine zq_go (fun _ k => XS.icmpNo X0.here hx rfl (hb hby zq_d1_33) rfl (feq hc33).1 k) ?_
  show zq_Go p e below s _ _ _ (s₁.setTop (mkF m 36 #[.val (.int ch)] []))
  refine zq_go (fun _ k => XS.iloadN X0.here hx rfl (hb hby zq_d1_36) rfl k) ?_
  show zq_Go p e below s _ _ _ (s₁.setTop (mkF m 37 #[.val (.int ch)] [(.int ch)]))
  refine zq_go (fun _ k => XS.bipush X0.here hx rfl (hb hby zq_d1_37) k) ?_
  show zq_Go p e below s _ _ _ (s₁.setTop (mkF m 39 #[.val (.int ch)] [(.int (54 : Int32)), (.int ch)]))
  by_cases hc39 : ch = (54 : Int32)
  ·
    refine zq_go (fun _ k => XS.icmpYes X0.here hx rfl (pc0 := 39) (pc' := 60) rfl (hb hby zq_d1_39) rfl (teq hc39).1 (by decide) (by decide) k) ?_
    show zq_Go p e below s _ _ _ (s₁.setTop (mkF m 60 #[.val (.int ch)] []))
    refine zq_go (fun _ k => XS.iconst X0.here hx rfl (hb hby zq_d1_60) k) ?_
    show zq_Go p e below s _ _ _ (s₁.setTop (mkF m 61 #[.val (.int ch)] [(.int (1 : Int32))]))
    refine zq_go (fun _ k => XS.goto X0.here hx rfl (pc0 := 61) (pc' := 65) rfl (hb hby zq_d1_61) (by decide) (by decide) k) ?_
    show zq_Go p e below s _ _ _ (s₁.setTop (mkF m 65 #[.val (.int ch)] [(.int (1 : Int32))]))
    exact zq_retN X0 hx hlk (t := .boolean) hret (by simp) (hb hby zq_d1_65) ⟨by rw [show zq_ten ch = (1 : Int32) from by simp [zq_ten, hc3, hc9, hc15, hc21, hc27, hc33, hc39]]; rfl, rfl, e0⟩ (by decide) (by decide)
  refine zq_go (fun _ k => XS.icmpNo X0.here hx rfl (hb hby zq_d1_39) rfl (feq hc39).1 k) ?_
  show zq_Go p e below s _ _ _ (s₁.setTop (mkF m 42 #[.val (.int ch)] []))
  refine zq_go (fun _ k => XS.iloadN X0.here hx rfl (hb hby zq_d1_42) rfl k) ?_
  show zq_Go p e below s _ _ _ (s₁.setTop (mkF m 43 #[.val (.int ch)] [(.int ch)]))
  refine zq_go (fun _ k => XS.bipush X0.here hx rfl (hb hby zq_d1_43) k) ?_
  show zq_Go p e below s _ _ _ (s₁.setTop (mkF m 45 #[.val (.int ch)] [(.int (55 : Int32)), (.int ch)]))
  by_cases hc45 : ch = (55 : Int32)
  ·
    refine zq_go (fun _ k => XS.icmpYes X0.here hx rfl (pc0 := 45) (pc' := 60) rfl (hb hby zq_d1_45) rfl (teq hc45).1 (by decide) (by decide) k) ?_
    show zq_Go p e below s _ _ _ (s₁.setTop (mkF m 60 #[.val (.int ch)] []))
    refine zq_go (fun _ k => XS.iconst X0.here hx rfl (hb hby zq_d1_60) k) ?_
    show zq_Go p e below s _ _ _ (s₁.setTop (mkF m 61 #[.val (.int ch)] [(.int (1 : Int32))]))
    refine zq_go (fun _ k => XS.goto X0.here hx rfl (pc0 := 61) (pc' := 65) rfl (hb hby zq_d1_61) (by decide) (by decide) k) ?_
    show zq_Go p e below s _ _ _ (s₁.setTop (mkF m 65 #[.val (.int ch)] [(.int (1 : Int32))]))
    exact zq_retN X0 hx hlk (t := .boolean) hret (by simp) (hb hby zq_d1_65) ⟨by rw [show zq_ten ch = (1 : Int32) from by simp [zq_ten, hc3, hc9, hc15, hc21, hc27, hc33, hc39, hc45]]; rfl, rfl, e0⟩ (by decide) (by decide)
  refine zq_go (fun _ k => XS.icmpNo X0.here hx rfl (hb hby zq_d1_45) rfl (feq hc45).1 k) ?_
  show zq_Go p e below s _ _ _ (s₁.setTop (mkF m 48 #[.val (.int ch)] []))
  refine zq_go (fun _ k => XS.iloadN X0.here hx rfl (hb hby zq_d1_48) rfl k) ?_
  show zq_Go p e below s _ _ _ (s₁.setTop (mkF m 49 #[.val (.int ch)] [(.int ch)]))
  refine zq_go (fun _ k => XS.bipush X0.here hx rfl (hb hby zq_d1_49) k) ?_
  show zq_Go p e below s _ _ _ (s₁.setTop (mkF m 51 #[.val (.int ch)] [(.int (56 : Int32)), (.int ch)]))
  by_cases hc51 : ch = (56 : Int32)
  ·
    refine zq_go (fun _ k => XS.icmpYes X0.here hx rfl (pc0 := 51) (pc' := 60) rfl (hb hby zq_d1_51) rfl (teq hc51).1 (by decide) (by decide) k) ?_
    show zq_Go p e below s _ _ _ (s₁.setTop (mkF m 60 #[.val (.int ch)] []))
    refine zq_go (fun _ k => XS.iconst X0.here hx rfl (hb hby zq_d1_60) k) ?_
    show zq_Go p e below s _ _ _ (s₁.setTop (mkF m 61 #[.val (.int ch)] [(.int (1 : Int32))]))
    refine zq_go (fun _ k => XS.goto X0.here hx rfl (pc0 := 61) (pc' := 65) rfl (hb hby zq_d1_61) (by decide) (by decide) k) ?_
    show zq_Go p e below s _ _ _ (s₁.setTop (mkF m 65 #[.val (.int ch)] [(.int (1 : Int32))]))
    exact zq_retN X0 hx hlk (t := .boolean) hret (by simp) (hb hby zq_d1_65) ⟨by rw [show zq_ten ch = (1 : Int32) from by simp [zq_ten, hc3, hc9, hc15, hc21, hc27, hc33, hc39, hc45, hc51]]; rfl, rfl, e0⟩ (by decide) (by decide)
  refine zq_go (fun _ k => XS.icmpNo X0.here hx rfl (hb hby zq_d1_51) rfl (feq hc51).1 k) ?_
  show zq_Go p e below s _ _ _ (s₁.setTop (mkF m 54 #[.val (.int ch)] []))
  refine zq_go (fun _ k => XS.iloadN X0.here hx rfl (hb hby zq_d1_54) rfl k) ?_
  show zq_Go p e below s _ _ _ (s₁.setTop (mkF m 55 #[.val (.int ch)] [(.int ch)]))
  refine zq_go (fun _ k => XS.bipush X0.here hx rfl (hb hby zq_d1_55) k) ?_
  show zq_Go p e below s _ _ _ (s₁.setTop (mkF m 57 #[.val (.int ch)] [(.int (57 : Int32)), (.int ch)]))
  by_cases hc57 : ch = (57 : Int32)
  ·
    refine zq_go (fun _ k => XS.icmpNo X0.here hx rfl (hb hby zq_d1_57) rfl (teq hc57).2 k) ?_
    show zq_Go p e below s _ _ _ (s₁.setTop (mkF m 60 #[.val (.int ch)] []))
    refine zq_go (fun _ k => XS.iconst X0.here hx rfl (hb hby zq_d1_60) k) ?_
    show zq_Go p e below s _ _ _ (s₁.setTop (mkF m 61 #[.val (.int ch)] [(.int (1 : Int32))]))
    refine zq_go (fun _ k => XS.goto X0.here hx rfl (pc0 := 61) (pc' := 65) rfl (hb hby zq_d1_61) (by decide) (by decide) k) ?_
    show zq_Go p e below s _ _ _ (s₁.setTop (mkF m 65 #[.val (.int ch)] [(.int (1 : Int32))]))
    exact zq_retN X0 hx hlk (t := .boolean) hret (by simp) (hb hby zq_d1_65) ⟨by rw [show zq_ten ch = (1 : Int32) from by simp [zq_ten, hc3, hc9, hc15, hc21, hc27, hc33, hc39, hc45, hc51, hc57]]; rfl, rfl, e0⟩ (by decide) (by decide)
  refine zq_go (fun _ k => XS.icmpYes X0.here hx rfl (pc0 := 57) (pc' := 64) rfl (hb hby zq_d1_57) rfl (feq hc57).2 (by decide) (by decide) k) ?_
  show zq_Go p e below s _ _ _ (s₁.setTop (mkF m 64 #[.val (.int ch)] []))
  refine zq_go (fun _ k => XS.iconst X0.here hx rfl (hb hby zq_d1_64) k) ?_
  show zq_Go p e below s _ _ _ (s₁.setTop (mkF m 65 #[.val (.int ch)] [(.int (0 : Int32))]))
  exact zq_retN X0 hx hlk (t := .boolean) hret (by simp) (hb hby zq_d1_65) ⟨by rw [show zq_ten ch = (0 : Int32) from by simp [zq_ten, hc3, hc9, hc15, hc21, hc27, hc33, hc39, hc45, hc51, hc57]]; rfl, rfl, e0⟩ (by decide) (by decide)
theorem zq_pn1 : plainName "com/example/clearline/clearline/engine/DocumentNumbers" = true := by first | (simp [plainName, overriddenIn]; done) | decide +kernel
theorem zq_d2_0 : decode prog_10_method_3_code 0 = .ok (.iload_n 0, 1) := by decide +kernel
theorem zq_d2_1 : decode prog_10_method_3_code 1 = .ok (.bipush 48, 2) := by decide +kernel
theorem zq_d2_3 : decode prog_10_method_3_code 3 = .ok (.if_icmp .lt 13, 3) := by decide +kernel
theorem zq_d2_6 : decode prog_10_method_3_code 6 = .ok (.iload_n 0, 1) := by decide +kernel
theorem zq_d2_7 : decode prog_10_method_3_code 7 = .ok (.bipush 57, 2) := by decide +kernel
theorem zq_d2_9 : decode prog_10_method_3_code 9 = .ok (.if_icmp .gt 7, 3) := by decide +kernel
theorem zq_d2_12 : decode prog_10_method_3_code 12 = .ok (.iconst 1, 1) := by decide +kernel
theorem zq_d2_13 : decode prog_10_method_3_code 13 = .ok (.goto 4, 3) := by decide +kernel
theorem zq_d2_16 : decode prog_10_method_3_code 16 = .ok (.iconst 0, 1) := by decide +kernel
theorem zq_d2_17 : decode prog_10_method_3_code 17 = .ok (.ireturn, 1) := by decide +kernel
theorem zq_ef2 (m : MethodId) (x0 : Int32) : entryFrame m #[(.int x0)] 1 = mkF m 0 #[.val (.int x0)] [] := by first | (simp [entryFrame, mkF, argsToLocals, Value.category]; done) | rfl
set_option maxRecDepth 65536 in
set_option maxHeartbeats 40000000 in
theorem zq_rm2 (l : Launch) (Z : State) (a0 : Array Value) (hw : ∀ d ∈ tables_1, d.before a0 Z = true) (ws : List Jvm.Cond) (ch : Int32) (h0 : Heap) :
    zq_Met l Z (⟨"com/example/clearline/clearline/engine/DocumentNumbers", "isDigit", "(C)Z"⟩ : MethodName) prog_10_method_3_code 1 (some .boolean) ws ({ frames := 0, cells := 0, slots := 0, locals := 0 } : Room) #[(.int ch)] h0 (zq_pure (.int (zq_isd ch)) h0) := by
  refine zq_body (plainFor_of_name zq_pn1) ?_
  intro p e s m below meth c s₁ hx hZ hby hml hret hlk hown hnm X0 e0
  refine zq_go (fun _ k => castTop (zq_ef2 m ch) k) ?_
  show zq_Go p e below s _ _ _ (s₁.setTop (mkF m 0 #[.val (.int ch)] []))
  refine zq_go (fun _ k => XS.iloadN X0.here hx rfl (hb hby zq_d2_0) rfl k) ?_
  show zq_Go p e below s _ _ _ (s₁.setTop (mkF m 1 #[.val (.int ch)] [(.int ch)]))
  refine zq_go (fun _ k => XS.bipush X0.here hx rfl (hb hby zq_d2_1) k) ?_
  show zq_Go p e below s _ _ _ (s₁.setTop (mkF m 3 #[.val (.int ch)] [(.int (48 : Int32)), (.int ch)]))
  by_cases hc3 : ch < (48 : Int32)
  ·
    refine zq_go (fun _ k => XS.icmpYes X0.here hx rfl (pc0 := 3) (pc' := 16) rfl (hb hby zq_d2_3) rfl (tlt hc3).1 (by decide) (by decide) k) ?_
    show zq_Go p e below s _ _ _ (s₁.setTop (mkF m 16 #[.val (.int ch)] []))
    refine zq_go (fun _ k => XS.iconst X0.here hx rfl (hb hby zq_d2_16) k) ?_
    show zq_Go p e below s _ _ _ (s₁.setTop (mkF m 17 #[.val (.int ch)] [(.int (0 : Int32))]))
    exact zq_retN X0 hx hlk (t := .boolean) hret (by simp) (hb hby zq_d2_17) ⟨by rw [show zq_isd ch = (0 : Int32) from by simp [zq_isd, hc3]]; rfl, rfl, e0⟩ (by decide) (by decide)
  refine zq_go (fun _ k => XS.icmpNo X0.here hx rfl (hb hby zq_d2_3) rfl (flt hc3).1 k) ?_
  show zq_Go p e below s _ _ _ (s₁.setTop (mkF m 6 #[.val (.int ch)] []))
  refine zq_go (fun _ k => XS.iloadN X0.here hx rfl (hb hby zq_d2_6) rfl k) ?_
  show zq_Go p e below s _ _ _ (s₁.setTop (mkF m 7 #[.val (.int ch)] [(.int ch)]))
  refine zq_go (fun _ k => XS.bipush X0.here hx rfl (hb hby zq_d2_7) k) ?_
  show zq_Go p e below s _ _ _ (s₁.setTop (mkF m 9 #[.val (.int ch)] [(.int (57 : Int32)), (.int ch)]))
  by_cases hc9 : (57 : Int32) < ch
  ·
    refine zq_go (fun _ k => XS.icmpYes X0.here hx rfl (pc0 := 9) (pc' := 16) rfl (hb hby zq_d2_9) rfl (tlt hc9).2.2.1 (by decide) (by decide) k) ?_
    show zq_Go p e below s _ _ _ (s₁.setTop (mkF m 16 #[.val (.int ch)] []))
    refine zq_go (fun _ k => XS.iconst X0.here hx rfl (hb hby zq_d2_16) k) ?_
    show zq_Go p e below s _ _ _ (s₁.setTop (mkF m 17 #[.val (.int ch)] [(.int (0 : Int32))]))
    exact zq_retN X0 hx hlk (t := .boolean) hret (by simp) (hb hby zq_d2_17) ⟨by rw [show zq_isd ch = (0 : Int32) from by simp [zq_isd, hc3, hc9]]; rfl, rfl, e0⟩ (by decide) (by decide)
  refine zq_go (fun _ k => XS.icmpNo X0.here hx rfl (hb hby zq_d2_9) rfl (flt hc9).2.2.1 k) ?_
  show zq_Go p e below s _ _ _ (s₁.setTop (mkF m 12 #[.val (.int ch)] []))
  refine zq_go (fun _ k => XS.iconst X0.here hx rfl (hb hby zq_d2_12) k) ?_
  show zq_Go p e below s _ _ _ (s₁.setTop (mkF m 13 #[.val (.int ch)] [(.int (1 : Int32))]))
  refine zq_go (fun _ k => XS.goto X0.here hx rfl (pc0 := 13) (pc' := 17) rfl (hb hby zq_d2_13) (by decide) (by decide) k) ?_
  show zq_Go p e below s _ _ _ (s₁.setTop (mkF m 17 #[.val (.int ch)] [(.int (1 : Int32))]))
  exact zq_retN X0 hx hlk (t := .boolean) hret (by simp) (hb hby zq_d2_17) ⟨by rw [show zq_isd ch = (1 : Int32) from by simp [zq_isd, hc3, hc9]]; rfl, rfl, e0⟩ (by decide) (by decide)
theorem zq_pd2 : parseMethodDescriptor "(C)Z" = some ⟨[.char], some .boolean⟩ := by decide +kernel
theorem zq_ef0 (m : MethodId) (x0 : Int32) : entryFrame m #[(.int x0)] maxLocals = mkF m 0 #[.val (.int x0), .unset, .unset] [] := by first | (simp [entryFrame, mkF, argsToLocals, Value.category, maxLocals]; done) | rfl
set_option maxRecDepth 65536 in
set_option maxHeartbeats 40000000 in
theorem zq_rm0 (l : Launch) (Z : State) (a0 : Array Value) (hw : ∀ d ∈ tables_1, d.before a0 Z = true) (ws : List Jvm.Cond) (x0 : Int32) (h0 : Heap) :
    zq_Met l Z x code maxLocals ret ws room_1 #[(.int x0)] h0 (zq_one h0.size) := by
  refine zq_body (plainFor_of_name zq_pn0) ?_
  intro p e s m below meth c s₁ hx hZ hby hml hret hlk hown hnm X0 e0
  refine zq_go (fun _ k => castTop (zq_ef0 m x0) k) ?_
  show zq_Go p e below s _ _ _ (s₁.setTop (mkF m 0 #[.val (.int x0), .unset, .unset] []))
  refine zq_go (fun _ k => XS.iloadN X0.here hx rfl (hb hby at_0) rfl k) ?_
  show zq_Go p e below s _ _ _ (s₁.setTop (mkF m 1 #[.val (.int x0), .unset, .unset] [(.int x0)]))
  refine zq_go (X0.ldcInt hx hown (mvT hZ (hw _ (List.mem_of_getElem? (i := 0) rfl))) (g := (mkF m 1 #[.val (.int x0), .unset, .unset] [(.int x0)])) rfl (hb hby at_1)) ?_
  show zq_Go p e below s _ _ _ (s₁.setTop (mkF m 3 #[.val (.int x0), .unset, .unset] [(.int (65535 : Int32)), (.int x0)]))
  refine zq_go (fun _ k => XS.iand X0.here hx rfl (hb hby at_3) rfl k) ?_
  show zq_Go p e below s _ _ _ (s₁.setTop (mkF m 4 #[.val (.int x0), .unset, .unset] [(.int (x0 &&& (65535 : Int32)))]))
  refine zq_go (fun _ k => XS.i2c X0.here hx rfl (hb hby at_4) rfl k) ?_
  show zq_Go p e below s _ _ _ (s₁.setTop (mkF m 5 #[.val (.int x0), .unset, .unset] [(.int ((x0 &&& (65535 : Int32)).toUInt32.toUInt16.toUInt32.toInt32))]))
  obtain ⟨ch, hch⟩ : ∃ z : Int32, z = ((x0 &&& (65535 : Int32)).toUInt32.toUInt16.toUInt32.toInt32) := ⟨_, rfl⟩
  rw [← hch]
  show zq_Go p e below s _ _ _ (s₁.setTop (mkF m 5 #[.val (.int x0), .unset, .unset] [(.int ch)]))
  refine zq_go (fun _ k => XS.istoreN X0.here hx rfl (hb hby at_5) rfl (l' := #[.val (.int x0), .val (.int ch), .unset]) rfl k) ?_
  show zq_Go p e below s _ _ _ (s₁.setTop (mkF m 6 #[.val (.int x0), .val (.int ch), .unset] []))
  refine zq_go (fun _ k => XS.iloadN X0.here hx rfl (hb hby at_6) rfl k) ?_
  show zq_Go p e below s _ _ _ (s₁.setTop (mkF m 7 #[.val (.int x0), .val (.int ch), .unset] [(.int ch)]))
  obtain ⟨T1, X1, e1, st1⟩ := zq_callP (W := 0) X0 hx hZ hown (hw _ (List.mem_of_getElem? (i := 1) rfl)) (hw _ (List.mem_of_getElem? (i := 2) rfl)) (hw _ (List.mem_of_getElem? (i := 3) rfl)) (hw _ (List.mem_of_getElem? (i := 4) rfl)) (by decide) (zq_rm1 l Z a0 hw [] ch h0) e0 (by decide) (by decide) rfl rfl (by decide) (by decide) (g := (mkF m 7 #[.val (.int x0), .val (.int ch), .unset] [(.int ch)])) rfl (by rw [hml]; rfl) (argsL := [(.int ch)]) (rest := []) (lenOf zq_pd2 rfl) rfl (by show 2 * 0 + _ ≤ _; exact Nat.le_of_eq rfl) (hb hby at_7)
  refine zq_go st1 ?_
  show zq_Go p e below s _ _ _ (T1.setTop (mkF m 10 #[.val (.int x0), .val (.int ch), .unset] [(.int (zq_ten ch))]))
  refine zq_go (fun _ k => XS.istoreN X1.here hx rfl (hb hby at_10) rfl (l' := #[.val (.int x0), .val (.int ch), .val (.int (zq_ten ch))]) rfl k) ?_
  show zq_Go p e below s _ _ _ (T1.setTop (mkF m 11 #[.val (.int x0), .val (.int ch), .val (.int (zq_ten ch))] []))
  refine zq_go (fun _ k => XS.iloadN X1.here hx rfl (hb hby at_11) rfl k) ?_
  show zq_Go p e below s _ _ _ (T1.setTop (mkF m 12 #[.val (.int x0), .val (.int ch), .val (.int (zq_ten ch))] [(.int ch)]))
  obtain ⟨T2, X2, e2, st2⟩ := zq_callP (W := 0) X1 hx hZ hown (hw _ (List.mem_of_getElem? (i := 5) rfl)) (hw _ (List.mem_of_getElem? (i := 6) rfl)) (hw _ (List.mem_of_getElem? (i := 7) rfl)) (hw _ (List.mem_of_getElem? (i := 8) rfl)) (by decide) (zq_rm2 l Z a0 hw [] ch h0) e1 (by decide) (by decide) rfl rfl (by decide) (by decide) (g := (mkF m 12 #[.val (.int x0), .val (.int ch), .val (.int (zq_ten ch))] [(.int ch)])) rfl (by rw [hml]; rfl) (argsL := [(.int ch)]) (rest := []) (lenOf zq_pd2 rfl) rfl (by show 2 * 0 + _ ≤ _; exact Nat.le_of_eq rfl) (hb hby at_12)
  refine zq_go st2 ?_
  show zq_Go p e below s _ _ _ (T2.setTop (mkF m 15 #[.val (.int x0), .val (.int ch), .val (.int (zq_ten ch))] [(.int (zq_isd ch))]))
  refine zq_go (fun _ k => XS.iloadN X2.here hx rfl (hb hby at_15) rfl k) ?_
  show zq_Go p e below s _ _ _ (T2.setTop (mkF m 16 #[.val (.int x0), .val (.int ch), .val (.int (zq_ten ch))] [(.int (zq_ten ch)), (.int (zq_isd ch))]))
  refine zq_go (fun _ k => XS.icmpNo X2.here hx rfl (hb hby at_16) rfl (teq (zq_eq _ : (zq_isd ch) = (zq_ten ch))).2 k) ?_
  show zq_Go p e below s _ _ _ (T2.setTop (mkF m 19 #[.val (.int x0), .val (.int ch), .val (.int (zq_ten ch))] []))
  refine zq_go (fun _ k => XS.iconst X2.here hx rfl (hb hby at_19) k) ?_
  show zq_Go p e below s _ _ _ (T2.setTop (mkF m 20 #[.val (.int x0), .val (.int ch), .val (.int (zq_ten ch))] [(.int (1 : Int32))]))
  refine zq_go (fun _ k => XS.goto X2.here hx rfl (pc0 := 20) (pc' := 24) rfl (hb hby at_20) (by decide) (by decide) k) ?_
  show zq_Go p e below s _ _ _ (T2.setTop (mkF m 24 #[.val (.int x0), .val (.int ch), .val (.int (zq_ten ch))] [(.int (1 : Int32))]))
  exact zq_retN X2 hx hlk (t := .boolean) hret (by simp) (hb hby at_24) ⟨rfl, Fr.nil _⟩ (by decide) (by decide)
set_option maxRecDepth 65536 in
set_option maxHeartbeats 40000000 in
theorem zq_comes {Post : Tables → Env → Array Value → State → Outcome → State → Prop} (hpost : ∀ tb e args s v u, (limb_1_1.after args s (.returned v) u = true ∧ limb_1_2.after args s (.returned v) u = true ∧ True) → FrameEnd s (.returned v) u (Jvm.fieldLocs frame_1_writes args s ++ Jvm.arrayLocs frame_1_arrays args s ++ Jvm.staticLocs frame_1_statics s) 0 0 → Post tb e args s (.returned v) u) :
    ArmFor flags0 classFile x code maxLocals ret World_1 tables_1 room_1 Calls_1 rest_1 Pre_1 Post := by
  intro l hfl _ _ p e ha hc hk s m args below hf hA hF happ hP
  obtain ⟨hcalls, hrest, hpre⟩ := hP
  obtain ⟨-, -, -, hnamed, -, -, -, hat⟩ := (Spec.applies_iff hf).mp happ
  obtain ⟨hg, hn⟩ := and_e (Cond.before_iff.mp (show (Jvm.Cond.and given_1 narrow_1).before args s = true from hpre))
  obtain ⟨g0, t0⟩ := and_e hg
  obtain ⟨w0, rfl⟩ : ∃ w0 : Value, args = #[w0] := by
    have hs : args.size = 1 := by simpa [Cond.value, given_1] using g0
    obtain ⟨L⟩ := args
    match L, hs with
    | [w0], _ => exact ⟨w0, rfl⟩
  have hw := fun d (hd : d ∈ tables_1) => atoms_spec (ws := Jvm.Cond.code x code maxLocals ret :: tables_1) hat d (List.mem_cons_of_mem _ hd)
  obtain ⟨i0, ei0⟩ := is_v t0
  obtain rfl : w0 = (.int i0) := Option.some.inj ei0
  obtain ⟨n, o, h1, h2, h3, _, L, rfl, ⟨rfl, N⟩, hq⟩ := zq_rm0 l s _ hw tables_1 i0 s.heap p e ha hc hk s m _ below hf ((Spec.applies_iff_loose hf).mp happ).1 ⟨rfl, State.Warmed39.refl s, rfl⟩ trivial
  refine ⟨n, _, h1, h2, h3, hpost _ _ _ _ _ _ ⟨Cond.after_iff.mpr rfl, Cond.after_iff.mpr (eq_i res_at (Term.int_eval (1)) rfl), trivial⟩ ⟨hq.1, hq.2.1, (hq.2.2.sift fun y hy => Or.inr (N y hy)).mono (by decide) (by decide)⟩⟩
theorem main_1_1 : Claimed_1_1 := zq_comes fun _ _ _ _ _ _ h hF => ⟨h.1, hF⟩
theorem main_1_2 : Claimed_1_2 := zq_comes fun _ _ _ _ _ _ h hF => ⟨h.2.1, hF⟩
end Jvm.Pilot.@@N@@
namespace Jvm.Pilot.@@N@@
open Jvm Jvm.ClassFile Sem Op Lib Jvm.Free Jvm.Stand Jvm.Pilot.@@N@@.Jvm.D
/-! MADE BY PROGRAM (witnessworld.py) out of the Statement's table words and the real class files: 9 classes; the members and pool entries that the words name. The judged class is class 1, her method 2. -/
namespace start1
open Jvm.ClassFile
def u (s : String) : CpInfo := .utf8 (stringToUtf16 s)
/-- a pool by its gaps: so many unusable entries, then the entry; so many at the end -/
def gap : Nat → List CpInfo → List CpInfo
  | 0, r => r
  | n + 1, r => .unusable :: gap n r
def poolList (es : List (Nat × CpInfo)) (last : Nat) : List CpInfo := es.foldr (fun e r => gap e.1 (e.2 :: r)) (gap last [])
def pool (es : List (Nat × CpInfo)) (last : Nat) : Array CpInfo := ⟨poolList es last⟩
def fileOf (pool : Array CpInfo) (this : Nat) (attrs : Array Attribute := #[]) (ms : Array MethodInfo := #[]) (fl : Nat := 33) (sup : Nat := 0) (ifs : Array Nat := #[]) (fds : Array FieldInfo := #[]) : ClassFile where
  minorVersion := 0
  majorVersion := 65
  constantPool := pool
  accessFlags := fl
  thisClass := this
  superClass := sup
  interfaces := ifs
  fields := fds
  methods := ms
  attributes := attrs
def plain (name : String) (sup : Option ClassId) : Class where
  name := name
  kind := .ordinary
  loader := none
  accessFlags := 33
  super := sup
  interfaces := #[]
  cf := none
  fields := #[]
  methods := #[]
  instanceTypes := #[]
  staticTypes := #[]
  resolved := #[]
  callSites := []
  init := .initialized
  statics := none
  mirror := none

def pool0 : Array CpInfo := pool [(5, u "<init>"), (0, u "()V"), (1, .class_ 10), (1, u "java/lang/Object")] 113

def k0m0 : Method := { name := "<init>", desc := "()V", sig := { parameters := [], returnType := none }, accessFlags := 1, code := none }
/-- java/lang/Object -/
def k0 : Class := { plain "java/lang/Object" none with
  accessFlags := 33
  interfaces := #[]
  cf := some (fileOf pool0 8 #[] #[{ accessFlags := 1, nameIndex := 5, descriptorIndex := 6, attributes := #[] }] 33 0 #[] #[])
  fields := #[]
  methods := #[k0m0]
  instanceTypes := #[]
  staticTypes := #[]
  resolved := Array.replicate 124 none
  statics := none }

def pool1 : Array CpInfo := pool [(2, .class_ 4), (1, u "java/lang/Object"), (0, u "<init>"), (0, u "()V"), (0, .integer 65535), (0, .methodref 9 10), (0, .class_ 11), (0, .nameAndType 12 13), (0, u "com/example/clearline/clearline/engine/DocumentNumbersIsDigitPinLaw"), (0, u "oneOfTheTenDigits"), (0, u "(C)Z"), (0, .methodref 15 16), (0, .class_ 17), (0, .nameAndType 18 13), (0, u "com/example/clearline/clearline/engine/DocumentNumbers"), (0, u "isDigit"), (3, u "law"), (0, u "(I)Z")] 2

def k1m0 : Method := { name := "<init>", desc := "()V", sig := { parameters := [], returnType := none }, accessFlags := 2, code := none }
def k1c1 : Code := { maxStack := 2, maxLocals := 1, code := method_2_code, exceptionTable := #[], attributes := #[] }
def k1m1 : Method := { name := "oneOfTheTenDigits", desc := "(C)Z", sig := { parameters := [.char], returnType := some .boolean }, accessFlags := 10, code := some k1c1 }
def k1c2 : Code := { maxStack := 2, maxLocals := 3, code := code, exceptionTable := #[], attributes := #[] }
def k1m2 : Method := { name := "law", desc := "(I)Z", sig := { parameters := [.int], returnType := some .boolean }, accessFlags := 9, code := some k1c2 }
/-- com/example/clearline/clearline/engine/DocumentNumbersIsDigitPinLaw -/
def k1 : Class := { plain "com/example/clearline/clearline/engine/DocumentNumbersIsDigitPinLaw" (some 0) with
  accessFlags := 49
  interfaces := #[]
  cf := some (fileOf pool1 9 #[] #[{ accessFlags := 2, nameIndex := 5, descriptorIndex := 6, attributes := #[] }, { accessFlags := 10, nameIndex := 12, descriptorIndex := 13, attributes := #[] }, { accessFlags := 9, nameIndex := 22, descriptorIndex := 23, attributes := #[] }] 49 2 #[] #[])
  fields := #[]
  methods := #[k1m0, k1m1, k1m2]
  instanceTypes := #[]
  staticTypes := #[]
  resolved := Array.replicate 26 none
  statics := none }

def pool2 : Array CpInfo := pool [(2, .class_ 4), (1, u "java/lang/Object"), (0, u "<init>"), (0, u "()V"), (15, .class_ 24), (1, u "com/example/clearline/clearline/engine/DocumentNumbers"), (0, u "isDigit"), (0, u "(C)Z")] 32

def k2m0 : Method := { name := "<init>", desc := "()V", sig := { parameters := [], returnType := none }, accessFlags := 2, code := none }
def k2c1 : Code := { maxStack := 2, maxLocals := 1, code := prog_10_method_3_code, exceptionTable := #[], attributes := #[] }
def k2m1 : Method := { name := "isDigit", desc := "(C)Z", sig := { parameters := [.char], returnType := some .boolean }, accessFlags := 8, code := some k2c1 }
/-- com/example/clearline/clearline/engine/DocumentNumbers -/
def k2 : Class := { plain "com/example/clearline/clearline/engine/DocumentNumbers" (some 0) with
  accessFlags := 48
  interfaces := #[]
  cf := some (fileOf pool2 22 #[] #[{ accessFlags := 2, nameIndex := 5, descriptorIndex := 6, attributes := #[] }, { accessFlags := 8, nameIndex := 25, descriptorIndex := 26, attributes := #[] }] 48 2 #[] #[])
  fields := #[]
  methods := #[k2m0, k2m1]
  instanceTypes := #[]
  staticTypes := #[]
  resolved := Array.replicate 59 none
  statics := none }

def pool3 : Array CpInfo := pool [(1, u "java/lang/Cloneable"), (0, .class_ 1), (0, u "java/lang/Object"), (0, .class_ 3)] 3

/-- java/lang/Cloneable -/
def k3 : Class := { plain "java/lang/Cloneable" (some 0) with
  accessFlags := 1537
  interfaces := #[]
  cf := some (fileOf pool3 2 #[] #[] 1537 4 #[] #[])
  fields := #[]
  methods := #[]
  instanceTypes := #[]
  staticTypes := #[]
  resolved := Array.replicate 8 none
  statics := none }

def pool4 : Array CpInfo := pool [(1, u "java/io/Serializable"), (0, .class_ 1), (0, u "java/lang/Object"), (0, .class_ 3)] 3

/-- java/io/Serializable -/
def k4 : Class := { plain "java/io/Serializable" (some 0) with
  accessFlags := 1537
  interfaces := #[]
  cf := some (fileOf pool4 2 #[] #[] 1537 4 #[] #[])
  fields := #[]
  methods := #[]
  instanceTypes := #[]
  staticTypes := #[]
  resolved := Array.replicate 8 none
  statics := none }

/-- the primitive byte -/
def k5 : Class := { plain "byte" none with kind := .primitive 'B', accessFlags := 0x411 }
/-- [B -/
def k6 : Class := { plain "[B" (some 0) with kind := .array 5 .byte, interfaces := #[3, 4], accessFlags := 1041 }

/-- the primitive int -/
def k7 : Class := { plain "int" none with kind := .primitive 'I', accessFlags := 0x411 }
/-- [I -/
def k8 : Class := { plain "[I" (some 0) with kind := .array 7 .int, interfaces := #[3, 4], accessFlags := 1041 }

def heap : Heap := #[]
def classes : Array Class := #[k0, k1, k2, k3, k4, k5, k6, k7, k8]
def interned : List (Array UInt16 × Addr) := []
def slotsUsed : Nat := 0
def theMethod : MethodId := ⟨1, 2⟩
def args0 : Array Value := #[.int 53]
def aboutOver (below : List Frame) : State where
  vm := { classes := classes, interned := interned.toArray }
  heap := heap
  slotsUsed := slotsUsed
  threads := #[{ frames := .invoking theMethod args0 :: below }]
def below0 : List Frame := [.native { method := ⟨0, 0⟩, args := #[] }]
def about1 : State := aboutOver below0
def p0 : Program := .bare "" "" ""
def e0 : Env := launch0.env 0 0 0
theorem w_frames : about1.frames = Frame.invoking theMethod args0 :: below0 := rfl
set_option maxRecDepth 65536 in
theorem w_args : argsFit about1.vm theMethod args0 = true := by decide +kernel
set_option maxRecDepth 65536 in
theorem w_heap : heapFits about1 = true := by decide +kernel
set_option maxRecDepth 65536 in
theorem w_runnable : about1.curStatus? = some .runnable := by decide +kernel
set_option maxRecDepth 65536 in
theorem w_alone : about1.alone = true := by decide +kernel
set_option maxRecDepth 65536 in
theorem w_named : about1.methodNamed? x = some theMethod := by decide +kernel
set_option maxRecDepth 65536 in
theorem w_hears : about1.hears theMethod below0 = true := by decide +kernel
set_option maxRecDepth 65536 in
theorem w_ripe : about1.ripe theMethod args0 below0 = true := by decide +kernel
theorem w_running : about1.status = .running := rfl
set_option maxRecDepth 65536 in
theorem w_room : about1.hasRoom e0.platform room_1 = true :=
  launch0.hasRoom_least _ room_1 (by decide +kernel) (by decide +kernel) (by decide +kernel) (by decide +kernel) (by decide +kernel) (by decide +kernel)
theorem allAtoms_all (ts : List Jvm.Cond) (a : Array Jvm.Value) (st : Jvm.State) : (allAtoms ts).before a st = ts.all (fun c => c.before a st) := by
  induction ts with
  | nil => rfl
  | cons c t ih =>
    show (Jvm.Cond.and c (allAtoms t)).before a st = _
    rw [Jvm.Cond.before_and, ih, List.all_cons]
def words1 : List Jvm.Cond := Jvm.Cond.code x code maxLocals ret :: tables_1
/-- a 'code' word, met by the world's own term for the bytes: nothing is compared byte by byte -/
theorem code_word {y : MethodName} {bytes : ByteArray} {mx : Nat} {rt : Option FieldType} {a : Array Value} {s : State} {m : MethodId} {meth : Method} {c : Code} (h1 : s.methodNamed? y = some m) (h2 : s.vm.method? m = some meth) (h3 : meth.code = some c) (h4 : c.code = bytes)
    (h5 : (c.maxLocals == mx && c.exceptionTable.isEmpty && decide (c.maxStack ≤ mostOperands) && decide (meth.sig.returnType = rt) && !meth.locks && decide (parseMethodDescriptor y.desc = some meth.sig)) = true) : (Jvm.Cond.code y bytes mx rt).before a s = true := by
  simp only [Bool.and_eq_true, beq_iff_eq, Bool.not_eq_true', decide_eq_true_eq] at h5
  obtain ⟨⟨⟨⟨⟨g1, g2⟩, g3⟩, g4⟩, g5⟩, g6⟩ := h5
  simp [Cond.before, Cond.holds, Cond.value, h1, h2, h3, h4, g1, g2, g3, g4, g5, g6]
def isCode : Jvm.Cond → Bool
  | .code _ _ _ _ => true
  | _ => false
theorem all_split {L : List Jvm.Cond} {P : Jvm.Cond → Bool} (h1 : L.all (fun c => isCode c || P c) = true) (h2 : ∀ c ∈ L.filter isCode, P c = true) : L.all P = true := by
  refine List.all_eq_true.mpr fun c hc => ?_
  have h := List.all_eq_true.mp h1 c hc
  rcases Bool.eq_false_or_eq_true (isCode c) with hi | hi
  · exact h2 c (List.mem_filter.mpr ⟨hc, hi⟩)
  · simpa [hi] using h
set_option maxRecDepth 65536 in
theorem w_c0 : (Jvm.Cond.code x code maxLocals ret).before args0 about1 = true := code_word (m := ⟨1, 2⟩) (meth := k1m2) (c := k1c2) (by decide +kernel) rfl rfl rfl (by decide +kernel)
set_option maxRecDepth 65536 in
theorem w_c1 : (Jvm.Cond.code ({ cls := "com/example/clearline/clearline/engine/DocumentNumbersIsDigitPinLaw", name := "oneOfTheTenDigits", desc := "(C)Z" } : Jvm.MethodName) method_2_code (1 : Nat) (Option.some Jvm.ClassFile.FieldType.boolean)).before args0 about1 = true := code_word (m := ⟨1, 1⟩) (meth := k1m1) (c := k1c1) (by decide +kernel) rfl rfl rfl (by decide +kernel)
set_option maxRecDepth 65536 in
theorem w_c2 : (Jvm.Cond.code ({ cls := "com/example/clearline/clearline/engine/DocumentNumbers", name := "isDigit", desc := "(C)Z" } : Jvm.MethodName) prog_10_method_3_code (1 : Nat) (Option.some Jvm.ClassFile.FieldType.boolean)).before args0 about1 = true := code_word (m := ⟨2, 1⟩) (meth := k2m1) (c := k2c1) (by decide +kernel) rfl rfl rfl (by decide +kernel)
def codes1 : List Jvm.Cond := [Jvm.Cond.code x code maxLocals ret, Jvm.Cond.code ({ cls := "com/example/clearline/clearline/engine/DocumentNumbersIsDigitPinLaw", name := "oneOfTheTenDigits", desc := "(C)Z" } : Jvm.MethodName) method_2_code (1 : Nat) (Option.some Jvm.ClassFile.FieldType.boolean), Jvm.Cond.code ({ cls := "com/example/clearline/clearline/engine/DocumentNumbers", name := "isDigit", desc := "(C)Z" } : Jvm.MethodName) prog_10_method_3_code (1 : Nat) (Option.some Jvm.ClassFile.FieldType.boolean)]
set_option maxRecDepth 65536 in
theorem codes_eq : words1.filter isCode = codes1 := rfl
theorem w_codes : ∀ c ∈ words1.filter isCode, c.before args0 about1 = true := by
  rw [codes_eq]
  intro c hc
  simp only [codes1, List.mem_cons, List.not_mem_nil, or_false] at hc
  rcases hc with rfl | rfl | rfl
  · exact w_c0
  · exact w_c1
  · exact w_c2
set_option maxRecDepth 65536 in
theorem w_t1 : words1.all (fun c => isCode c || c.before args0 about1) = true := by decide +kernel
theorem w_tables : (allAtoms (Jvm.Cond.code x code maxLocals ret :: tables_1)).before args0 about1 = true := by
  rw [allAtoms_all]
  show words1.all (fun c => c.before args0 about1) = true
  refine all_split ?_ w_codes
  rw [w_t1]
set_option maxRecDepth 65536 in
theorem w_case : (Jvm.Cond.and given_1 narrow_1).before args0 about1 = true := by decide +kernel
theorem w_applies : (headSpec (Jvm.Cond.code x code maxLocals ret :: tables_1) room_1).applies x e0.platform about1 = true :=
  (Spec.applies_iff w_frames).mpr ⟨w_running, w_runnable, w_alone, w_named, w_hears, w_ripe, w_room, w_tables⟩
theorem atStart : AtStart classFile x code maxLocals ret World_1 tables_1 room_1 Calls_1 rest_1 Pre_1 launch0 p0 e0 about1 theMethod args0 below0 :=
  ⟨lists_1, trivial, launch0.admits_env _ _ _, launch0.least_env, fairChoices_fair.cas, fairChoices_fair.clock, w_frames, w_args, w_heap, w_applies, trivial, trivial, w_case⟩
end start1
theorem witness_1 : WitnessClaimed_1 := ⟨start1.p0, start1.e0, start1.about1, start1.theMethod, start1.args0, start1.below0, start1.atStart⟩
end Jvm.Pilot.@@N@@
