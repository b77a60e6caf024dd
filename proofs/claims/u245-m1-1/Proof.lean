import JvmDerived
import JvmDerived.Pilot.@@N@@Statement
import JvmDerived.Pilot.@@N@@Code
set_option linter.unusedVariables false
set_option linter.unusedSimpArgs false
namespace Jvm.RoadKit
open Sem ClassFile Op Lib Jvm.Stand Jvm.Free Jvm.LawKit
section Own
variable {p : Program} {l : Launch} {e : Env} {R : Room} {s : State} {m : MethodId} {args : Array Value} {below : List Frame} {meth : Method} {c : Code} {T : State} {locs : List Loc} {cells slots : Nat} {Z : State} {a0 : Array Value} {h : Heap}
/-- what is left of a body: from the frame g on it ends, and Q holds of what it returns, the heap and the places written -/
def Goes (p : Program) (e : Env) (below : List Frame) (s : State) (K N : Nat) (Q : Option Value → Heap → List Loc → Prop) (T : State) (g : JFrame) : Prop :=
  ∃ s₂ o, Steps p.tables e below (T.setTop g) s₂ ∧ s₂.status = .running ∧ Ended s₂ below o ∧ ∃ v L, o = .returned v ∧ Q v s₂.heap L ∧ FrameEnd s o s₂ L K N
theorem Goes.step {K N : Nat} {Q : Option Value → Heap → List Loc → Prop} {T' : State} {g g' : JFrame} (k : ∀ t, Steps p.tables e below (T'.setTop g') t → Steps p.tables e below (T.setTop g) t) (h : Goes p e below s K N Q T' g') : Goes p e below s K N Q T g := by
  obtain ⟨s₂, o, h1, h2⟩ := h
  exact ⟨s₂, o, k _ h1, h2⟩
theorem Goes.jump {K N : Nat} {Q : Option Value → Heap → List Loc → Prop} {T' : State} {g g' : JFrame} (k : Steps p.tables e below (T.setTop g) (T'.setTop g')) (h : Goes p e below s K N Q T' g') : Goes p e below s K N Q T g :=
  Goes.step (fun _ q => k.trans q) h
theorem Goes.ite {K N : Nat} {α : Type} {Q : α → Option Value → Heap → List Loc → Prop} {g : JFrame} {a b : α} {d : Prop} [Decidable d] (h1 : d → Goes p e below s K N (Q a) T g) (h2 : ¬ d → Goes p e below s K N (Q b) T g) : Goes p e below s K N (Q (if d then a else b)) T g := by
  split
  · next q => exact h1 q
  · next q => exact h2 q
theorem Goes.imp {K N : Nat} {Q Q' : Option Value → Heap → List Loc → Prop} {g : JFrame} (q : ∀ v h L, Q v h L → Q' v h L) (h : Goes p e below s K N Q T g) : Goes p e below s K N Q' T g := by
  obtain ⟨s₂, o, h1, h2, h3, v, L, h4, h5, h6⟩ := h
  exact ⟨s₂, o, h1, h2, h3, v, L, h4, q _ _ _ h5, h6⟩
theorem retI (X : Stand p l e R s m args below meth c T locs cells slots) (hx : p.tables.exec = Jvm.exec) {pc : Nat} {Ls : Array Slot} {z : Int32} {rest : List Value} (hret : meth.sig.returnType = some .int) (hd : decode c.code pc = .ok (.ireturn, 1)) {fs : List Frame}
    (hl : ∀ (f : JFrame) (acts : List Action), f.method = m → f.locked = none → f.entered = [] → (doReturn e (T.setTop f) acts (some (.int z))).1 = T.setFrames fs) : Steps p.tables e below (T.setTop (mkF m pc Ls (.int z :: rest))) (T.setFrames fs) := by
  have hm' : T.vm.method? m = some meth := X.method'
  have hn : narrow .int (.int z) = .int z := rfl
  show Steps p.tables e below (T.setTop { method := m, pc := pc, locals := Ls, stack := _ :: rest, locked := none }) _
  jvm_step X.here [X.here.top, hx, hd, hm', hret, hn]
  first | (intro acts; rw [hl _ acts rfl rfl rfl]) | rw [hl _ _ rfl rfl rfl]
  exact Steps.refl _
theorem retJ (X : Stand p l e R s m args below meth c T locs cells slots) (hx : p.tables.exec = Jvm.exec) {pc : Nat} {Ls : Array Slot} {z : Int64} {rest : List Value} (hret : meth.sig.returnType = some .long) (hd : decode c.code pc = .ok (.lreturn, 1)) {fs : List Frame}
    (hl : ∀ (f : JFrame) (acts : List Action), f.method = m → f.locked = none → f.entered = [] → (doReturn e (T.setTop f) acts (some (.long z))).1 = T.setFrames fs) : Steps p.tables e below (T.setTop (mkF m pc Ls (.long z :: rest))) (T.setFrames fs) :=
  retOut X hx hret rfl (Or.inr (Or.inl ⟨rfl, rfl, z, rfl⟩)) hd hl
theorem Goes.outI (X : Stand p l e R s m args below meth c T locs cells slots) (hx : p.tables.exec = Jvm.exec) (hlk : meth.locks = false) (hret : meth.sig.returnType = some .int) {pc : Nat} (hd : decode c.code pc = .ok (.ireturn, 1)) {Ls : Array Slot} {z : Int32} {rest : List Value} {K N : Nat} {Q : Option Value → Heap → List Loc → Prop}
    (hq : Q (some (.int z)) T.heap locs) (hk : cells ≤ K) (hn : slots ≤ N) : Goes p e below s K N Q T (mkF m pc Ls (.int z :: rest)) := by
  obtain ⟨fs, hr, hrun, hended, hW, hsame⟩ := X.leave (v := some (.int z)) (fun h => by rw [hret] at h; cases h) hlk
  exact ⟨_, _, retI X hx hret hd hr, hrun, hended, _, _, rfl, hq, ⟨_, rfl⟩, hW, hsame.mono hk hn⟩
theorem Goes.outJ (X : Stand p l e R s m args below meth c T locs cells slots) (hx : p.tables.exec = Jvm.exec) (hlk : meth.locks = false) (hret : meth.sig.returnType = some .long) {pc : Nat} (hd : decode c.code pc = .ok (.lreturn, 1)) {Ls : Array Slot} {z : Int64} {rest : List Value} {K N : Nat} {Q : Option Value → Heap → List Loc → Prop}
    (hq : Q (some (.long z)) T.heap locs) (hk : cells ≤ K) (hn : slots ≤ N) : Goes p e below s K N Q T (mkF m pc Ls (.long z :: rest)) := by
  obtain ⟨fs, hr, hrun, hended, hW, hsame⟩ := X.leave (v := some (.long z)) (fun h => by rw [hret] at h; cases h) hlk
  exact ⟨_, _, retJ X hx hret hd hr, hrun, hended, _, _, rfl, hq, ⟨_, rfl⟩, hW, hsame.mono hk hn⟩
theorem Goes.outN (X : Stand p l e R s m args below meth c T locs cells slots) (hx : p.tables.exec = Jvm.exec) (hlk : meth.locks = false) {t : FieldType} (hret : meth.sig.returnType = some t) (ht : t = .boolean ∨ t = .byte ∨ t = .char ∨ t = .short) {pc : Nat} (hd : decode c.code pc = .ok (.ireturn, 1)) {Ls : Array Slot} {z : Int32} {rest : List Value} {K N : Nat} {Q : Option Value → Heap → List Loc → Prop}
    (hq : Q (some (.int (nar t z))) T.heap locs) (hk : cells ≤ K) (hn : slots ≤ N) : Goes p e below s K N Q T (mkF m pc Ls (.int z :: rest)) := by
  obtain ⟨fs, hr, hrun, hended, hW, hsame⟩ := X.leave (v := some (.int (nar t z))) (fun h => by rw [hret] at h; cases h) hlk
  exact ⟨_, _, retN X hx hret ht hd hr, hrun, hended, _, _, rfl, hq, ⟨_, rfl⟩, hW, hsame.mono hk hn⟩
theorem Goes.outV (X : Stand p l e R s m args below meth c T locs cells slots) (hx : p.tables.exec = Jvm.exec) (hlk : meth.locks = false) (hret : meth.sig.returnType = none) {pc : Nat} (hd : decode c.code pc = .ok (.return_, 1)) {Ls : Array Slot} {K N : Nat} {Q : Option Value → Heap → List Loc → Prop}
    (hq : Q none T.heap locs) (hk : cells ≤ K) (hn : slots ≤ N) : Goes p e below s K N Q T (mkF m pc Ls []) := by
  obtain ⟨fs, hr, hrun, hended, hW, hsame⟩ := X.leave (v := none) (fun _ => rfl) hlk
  exact ⟨_, _, X.returnOut hx hret hd hr, hrun, hended, _, _, rfl, hq, ⟨_, rfl⟩, hW, hsame.mono hk hn⟩
theorem Goes.outR (X : Stand p l e R s m args below meth c T locs cells slots) (hx : p.tables.exec = Jvm.exec) (hlk : meth.locks = false) {t : FieldType} (hret : meth.sig.returnType = some t) (ht : t.isReference = true) {w : Value} (hw : w.isRef = true) {pc : Nat} (hd : decode c.code pc = .ok (.areturn, 1)) {Ls : Array Slot} {K N : Nat} {Q : Option Value → Heap → List Loc → Prop}
    (hq : Q (some w) T.heap locs) (hk : cells ≤ K) (hn : slots ≤ N) : Goes p e below s K N Q T (mkF m pc Ls [w]) := by
  obtain ⟨fs, hr, hrun, hended, hW, hsame⟩ := X.leave (v := some w) (fun h => by rw [hret] at h; cases h) hlk
  exact ⟨_, _, X.areturnOut hx hw hret ht hd hr, hrun, hended, _, _, rfl, hq, ⟨_, rfl⟩, hW, hsame.mono hk hn⟩
/-- a body that returns v and leaves the heap as it was -/
def PV (h0 : Heap) (r : Value) (v : Option Value) (h : Heap) (L : List Loc) : Prop := v = some r ∧ L = [] ∧ h = h0
def PI (h0 : Heap) (r : Int32) (v : Option Value) (h : Heap) (L : List Loc) : Prop := PV h0 (.int r) v h L
def PJ (h0 : Heap) (r : Int64) (v : Option Value) (h : Heap) (L : List Loc) : Prop := PV h0 (.long r) v h L
def PA (h0 : Heap) (r : Addr) (v : Option Value) (h : Heap) (L : List Loc) : Prop := PV h0 (.ref r) v h L
/-- a reference that may be null -/
def ov : Option Addr → Value
  | none => .null
  | some b => .ref b
def PO (h0 : Heap) (r : Option Addr) (v : Option Value) (h : Heap) (L : List Loc) : Prop := PV h0 (ov r) v h L
theorem ov_cat (o : Option Addr) : (ov o).category = 1 := by cases o <;> rfl
theorem ov_inj {a b : Option Addr} : (ov a = ov b) = (a = b) := by cases a <;> cases b <;> simp [ov]
theorem ov_ref (o : Option Addr) : (ov o).isRef = true := by cases o <;> rfl
/-- a virtual call of a body that leaves the heap as it was -/
theorem callPureV (X : Stand p l e R s m args below meth c T locs cells slots) (hx : p.tables.exec = Jvm.exec) (hZ : Z.Warmed39 s.vm) {own C : String} {index : Nat} {y z : MethodName} {bytes : ByteArray} {maxL : Nat} {ret : Option FieldType} (hown : s.vm.findClass own = some m.cls)
    (w1 : (Cond.methodLink own index y).before a0 Z = true) (w2 : (Cond.declares y).before a0 Z = true) (w3 : (Cond.selects C y z).before a0 Z = true) (w4 : (Cond.instanceMethod z).before a0 Z = true) (w5 : (Cond.code z bytes maxL ret).before a0 Z = true) (w6 : (Cond.initialized z.cls).before a0 Z = true) (hnf : NotFace s y) (hy : y.cls ≠ "java/lang/invoke/MethodHandle" ∧ y.cls ≠ "java/lang/invoke/VarHandle")
    {F W0 W : Nat} {b : Addr} {argsL rest : List Value} {r : Value} {Q : Option Value → Heap → List Loc → Prop} (hQ : ∀ v h' L, Q v h' L → PV h r v h' L)
    (hM : MetFree l z (head1 [Cond.code z bytes maxL ret] ({ frames := F, cells := 0, slots := 0, locals := W0 } : Room)) (fun a U => a = (.ref b :: argsL).toArray ∧ Z.Warmed39 U.vm ∧ U.heap = h) (fun _ _ _ _ _ => True) (fun _ U o U' => ∃ v L, o = .returned v ∧ Q v U'.heap L ∧ FrameEnd U o U' L ({ frames := F, cells := 0, slots := 0, locals := W0 } : Room).cells ({ frames := F, cells := 0, slots := 0, locals := W0 } : Room).slots))
    (hf : F + 1 ≤ R.frames) (hl : W + (maxL + 11) + W0 ≤ R.locals) (hc : cells ≤ R.cells) (hs : slots ≤ R.slots) (eT : T.heap = h) (E : Exa Z h b C) {g : JFrame} (hg : g.method = m) (hsize : g.locals.size = c.maxLocals) (hlen : ∀ sig, parseMethodDescriptor y.desc = some sig → argsL.length = sig.parameters.length)
    (hstack : g.stack = argsL.reverse ++ .ref b :: rest) (hW : 2 * g.monitorRoom + (rest.map fun v => v.category).sum ≤ W) (hd : decode c.code g.pc = .ok (.invokevirtual index, 3)) :
    ∃ T', Stand p l e R s m args below meth c T' locs cells slots ∧ T'.heap = h ∧ ∀ target, Steps p.tables e below (T'.setTop { g with pc := g.pc + 3, stack := r :: rest }) target → Steps p.tables e below (T.setTop g) target := by
  obtain ⟨cq, kq, qa, qb, qc⟩ := isOf hZ eT E
  obtain ⟨_, _, ⟨T18, L18, k18, n18⟩, -, X18, ⟨Lc, hq, l18, y18, z18⟩, st⟩ := X.virtualBack hx hown (mvT hZ w1) (mvT hZ w2) hnf (mvT hZ w3) (mvT hZ w4) hy (backOf (W := W) hM hZ w5 w6 hf hl) qa qc hg hsize (Steps.refl _) hlen hstack hW hd (fun _ _ => ⟨rfl, eT, hc, hs⟩)
  dsimp only [Pt.U, Pt.locs, Pt.cells, Pt.slots] at X18 l18 y18 z18 st hq
  subst l18 y18 z18
  obtain ⟨rfl, rfl, e18⟩ := hQ _ _ _ hq
  rw [List.append_nil] at X18
  exact ⟨T18, X18, e18, fun _ k => st.trans k⟩
/-- a static call of a body that leaves the heap as it was -/
theorem callPure (X : Stand p l e R s m args below meth c T locs cells slots) (hx : p.tables.exec = Jvm.exec) (hZ : Z.Warmed39 s.vm) {own : String} {index : Nat} {y : MethodName} {bytes : ByteArray} {maxL : Nat} {ret : Option FieldType} (hown : s.vm.findClass own = some m.cls)
    (w1 : (Cond.methodLink own index y).before a0 Z = true) (w2 : (Cond.static y).before a0 Z = true) (w3 : (Cond.initialized y.cls).before a0 Z = true) (w4 : (Cond.code y bytes maxL ret).before a0 Z = true) (hy : y.cls ≠ "java/lang/invoke/MethodHandle" ∧ y.cls ≠ "java/lang/invoke/VarHandle")
    {F W0 W : Nat} {argsL rest : List Value} {r : Value} {Q : Option Value → Heap → List Loc → Prop} (hQ : ∀ v h' L, Q v h' L → PV h r v h' L)
    (hM : MetFree l y (head1 [Cond.code y bytes maxL ret] ({ frames := F, cells := 0, slots := 0, locals := W0 } : Room)) (fun a U => a = argsL.toArray ∧ Z.Warmed39 U.vm ∧ U.heap = h) (fun _ _ _ _ _ => True) (fun _ U o U' => ∃ v L, o = .returned v ∧ Q v U'.heap L ∧ FrameEnd U o U' L ({ frames := F, cells := 0, slots := 0, locals := W0 } : Room).cells ({ frames := F, cells := 0, slots := 0, locals := W0 } : Room).slots))
    (hf : F + 1 ≤ R.frames) (hl : W + (maxL + 11) + W0 ≤ R.locals) (hc : cells ≤ R.cells) (hs : slots ≤ R.slots) (eT : T.heap = h) {g : JFrame} (hg : g.method = m) (hsize : g.locals.size = c.maxLocals) (hlen : ∀ sig, parseMethodDescriptor y.desc = some sig → argsL.length = sig.parameters.length)
    (hstack : g.stack = argsL.reverse ++ rest) (hW : 2 * g.monitorRoom + (rest.map fun v => v.category).sum ≤ W) (hd : decode c.code g.pc = .ok (.invokestatic index, 3)) :
    ∃ T', Stand p l e R s m args below meth c T' locs cells slots ∧ T'.heap = h ∧ ∀ target, Steps p.tables e below (T'.setTop { g with pc := g.pc + 3, stack := r :: rest }) target → Steps p.tables e below (T.setTop g) target := by
  obtain ⟨_, _, ⟨T18, L18, k18, n18⟩, -, X18, ⟨Lc, hq, l18, y18, z18⟩, st⟩ := Jvm.LawKit.callS X hx hown (mvT hZ w1) (mvT hZ w2) (mvT hZ w3) (mvT hZ w4) hy (backOf (W := W) hM hZ w4 w3 hf hl) hg hsize hlen hstack hW hd (fun _ _ => ⟨rfl, eT, hc, hs⟩)
  dsimp only [Pt.U, Pt.locs, Pt.cells, Pt.slots] at X18 l18 y18 z18 st hq
  subst l18 y18 z18
  obtain ⟨rfl, rfl, e18⟩ := hQ _ _ _ hq
  rw [List.append_nil] at X18
  exact ⟨T18, X18, e18, st⟩
end Own
end Jvm.RoadKit
namespace Jvm.Pilot.@@N@@
open Jvm Jvm.ClassFile Sem Op Lib Jvm.Free Jvm.Stand Jvm.LawKit Jvm.RoadKit Bundle Jvm.Pilot.@@N@@.Jvm.D
theorem d1_0 : decode prog_11_method_2_code 0 = .ok (.iload_n 0, 1) := by decide +kernel
theorem d1_1 : decode prog_11_method_2_code 1 = .ok (.bipush 33, 2) := by decide +kernel
theorem d1_3 : decode prog_11_method_2_code 3 = .ok (.if_icmp .lt 9, 3) := by decide +kernel
theorem d1_6 : decode prog_11_method_2_code 6 = .ok (.iload_n 0, 1) := by decide +kernel
theorem d1_7 : decode prog_11_method_2_code 7 = .ok (.bipush 47, 2) := by decide +kernel
theorem d1_9 : decode prog_11_method_2_code 9 = .ok (.if_icmp .le 39, 3) := by decide +kernel
theorem d1_12 : decode prog_11_method_2_code 12 = .ok (.iload_n 0, 1) := by decide +kernel
theorem d1_13 : decode prog_11_method_2_code 13 = .ok (.bipush 58, 2) := by decide +kernel
theorem d1_15 : decode prog_11_method_2_code 15 = .ok (.if_icmp .lt 9, 3) := by decide +kernel
theorem d1_18 : decode prog_11_method_2_code 18 = .ok (.iload_n 0, 1) := by decide +kernel
theorem d1_19 : decode prog_11_method_2_code 19 = .ok (.bipush 64, 2) := by decide +kernel
theorem d1_21 : decode prog_11_method_2_code 21 = .ok (.if_icmp .le 27, 3) := by decide +kernel
theorem d1_24 : decode prog_11_method_2_code 24 = .ok (.iload_n 0, 1) := by decide +kernel
theorem d1_25 : decode prog_11_method_2_code 25 = .ok (.bipush 91, 2) := by decide +kernel
theorem d1_27 : decode prog_11_method_2_code 27 = .ok (.if_icmp .lt 9, 3) := by decide +kernel
theorem d1_30 : decode prog_11_method_2_code 30 = .ok (.iload_n 0, 1) := by decide +kernel
theorem d1_31 : decode prog_11_method_2_code 31 = .ok (.bipush 96, 2) := by decide +kernel
theorem d1_33 : decode prog_11_method_2_code 33 = .ok (.if_icmp .le 15, 3) := by decide +kernel
theorem d1_36 : decode prog_11_method_2_code 36 = .ok (.iload_n 0, 1) := by decide +kernel
theorem d1_37 : decode prog_11_method_2_code 37 = .ok (.bipush 123, 2) := by decide +kernel
theorem d1_39 : decode prog_11_method_2_code 39 = .ok (.if_icmp .lt 13, 3) := by decide +kernel
theorem d1_42 : decode prog_11_method_2_code 42 = .ok (.iload_n 0, 1) := by decide +kernel
theorem d1_43 : decode prog_11_method_2_code 43 = .ok (.bipush 126, 2) := by decide +kernel
theorem d1_45 : decode prog_11_method_2_code 45 = .ok (.if_icmp .gt 7, 3) := by decide +kernel
theorem d1_48 : decode prog_11_method_2_code 48 = .ok (.iconst 1, 1) := by decide +kernel
theorem d1_49 : decode prog_11_method_2_code 49 = .ok (.goto 4, 3) := by decide +kernel
theorem d1_52 : decode prog_11_method_2_code 52 = .ok (.iconst 0, 1) := by decide +kernel
theorem d1_53 : decode prog_11_method_2_code 53 = .ok (.ireturn, 1) := by decide +kernel
theorem pn_1 : plainName "com/example/recital/recital/io/MarkdownLinks" = true := by first | (simp [plainName, overriddenIn]; done) | decide +kernel
theorem ef_1 (m : MethodId) (p1 : Int32) : entryFrame m #[(.int p1)] 1 = mkF m 0 #[.val (.int p1)] [] := by first | (simp [entryFrame, mkF, argsToLocals, Value.category]; done) | rfl
def f1_52 (p1 : Int32) : Int32 := (0 : Int32)
def f1_48 (p1 : Int32) : Int32 := (1 : Int32)
def f1_36 (p1 : Int32) : Int32 := (if (p1 < (123 : Int32)) then (f1_52 p1) else (if ((126 : Int32) < p1) then (f1_52 p1) else (f1_48 p1)))
def f1_24 (p1 : Int32) : Int32 := (if (p1 < (91 : Int32)) then (f1_36 p1) else (if ((96 : Int32) < p1) then (f1_36 p1) else (f1_48 p1)))
def f1_12 (p1 : Int32) : Int32 := (if (p1 < (58 : Int32)) then (f1_24 p1) else (if ((64 : Int32) < p1) then (f1_24 p1) else (f1_48 p1)))
def f1 (p1 : Int32) : Int32 := (if (p1 < (33 : Int32)) then (f1_12 p1) else (if ((47 : Int32) < p1) then (f1_12 p1) else (f1_48 p1)))
set_option maxRecDepth 65536 in
set_option maxHeartbeats 40000000 in
theorem rm1 (l : Launch) (Z : State) (a0 : Array Value) (hw : ∀ d ∈ tables_1, d.before a0 Z = true) (ws : List Jvm.Cond) (p1 : Int32) (h0 : Heap)  :
    MetFree l (⟨"com/example/recital/recital/io/MarkdownLinks", "isEscapable", "(C)Z"⟩ : MethodName) (head1 (Jvm.Cond.code (⟨"com/example/recital/recital/io/MarkdownLinks", "isEscapable", "(C)Z"⟩ : MethodName) prog_11_method_2_code 1 (some .boolean) :: ws) ({ frames := 0, cells := 0, slots := 0, locals := 0 } : Room)) (fun a U => a = #[(.int p1)] ∧ Z.Warmed39 U.vm ∧ U.heap = h0) (fun _ _ _ _ _ => True) (fun _ U o U' => ∃ v L, o = .returned v ∧ PI h0 (f1 p1) v U'.heap L ∧ FrameEnd U o U' L ({ frames := 0, cells := 0, slots := 0, locals := 0 } : Room).cells ({ frames := 0, cells := 0, slots := 0, locals := 0 } : Room).slots) := by
  refine MetFree.of_bodySF (plainFor_of_name pn_1) hisR ?_
  intro p e s m args below meth c s₁ Bd hml0 hP hK
  obtain ⟨rfl, hZ, hh⟩ := hP
  have hx := Bd.exec
  have hby := Bd.bytes
  have hlk := Bd.notSynchronized
  have hml : c.maxLocals = 1 := hml0
  have hown : s.vm.findClass "com/example/recital/recital/io/MarkdownLinks" = some m.cls := findClass_of_methodNamed Bd.named
  have X0 : Stand p l e ({ frames := 0, cells := 0, slots := 0, locals := 0 } : Room) s m #[(.int p1)] below meth c s₁ [] 0 0 := Stand.of_body Bd
  have e0 : s₁.heap = h0 := by rw [← hh, Bd.state]; rfl
  have B52 : ∀ (T : State), Stand p l e ({ frames := 0, cells := 0, slots := 0, locals := 0 } : Room) s m #[(.int p1)] below meth c T [] 0 0 → T.heap = h0 → ∀ (_ : True), Goes p e below s ({ frames := 0, cells := 0, slots := 0, locals := 0 } : Room).cells ({ frames := 0, cells := 0, slots := 0, locals := 0 } : Room).slots (PI h0 (f1_52 p1)) T (mkF m 52 #[.val (.int p1)] []) := by
    intro T X eT _
    refine Goes.step (fun _ k => XS.iconst X.here hx rfl (hb hby d1_52) k) ?_
    show Goes p e below s _ _ _ T (mkF m 53 #[.val (.int p1)] [(.int (0 : Int32))])
    exact Goes.outN X hx hlk (t := .boolean) Bd.returns (by simp) (hb hby d1_53) ⟨rfl, rfl, eT⟩ (by decide) (by decide)
  have B48 : ∀ (T : State), Stand p l e ({ frames := 0, cells := 0, slots := 0, locals := 0 } : Room) s m #[(.int p1)] below meth c T [] 0 0 → T.heap = h0 → ∀ (_ : True), Goes p e below s ({ frames := 0, cells := 0, slots := 0, locals := 0 } : Room).cells ({ frames := 0, cells := 0, slots := 0, locals := 0 } : Room).slots (PI h0 (f1_48 p1)) T (mkF m 48 #[.val (.int p1)] []) := by
    intro T X eT _
    refine Goes.step (fun _ k => XS.iconst X.here hx rfl (hb hby d1_48) k) ?_
    show Goes p e below s _ _ _ T (mkF m 49 #[.val (.int p1)] [(.int (1 : Int32))])
    refine Goes.step (fun _ k => XS.goto X.here hx rfl (pc0 := 49) (pc' := 53) rfl (hb hby d1_49) (by decide) (by decide) k) ?_
    show Goes p e below s _ _ _ T (mkF m 53 #[.val (.int p1)] [(.int (1 : Int32))])
    exact Goes.outN X hx hlk (t := .boolean) Bd.returns (by simp) (hb hby d1_53) ⟨rfl, rfl, eT⟩ (by decide) (by decide)
  have B36 : ∀ (T : State), Stand p l e ({ frames := 0, cells := 0, slots := 0, locals := 0 } : Room) s m #[(.int p1)] below meth c T [] 0 0 → T.heap = h0 → ∀ (_ : True), Goes p e below s ({ frames := 0, cells := 0, slots := 0, locals := 0 } : Room).cells ({ frames := 0, cells := 0, slots := 0, locals := 0 } : Room).slots (PI h0 (f1_36 p1)) T (mkF m 36 #[.val (.int p1)] []) := by
    intro T X eT _
    refine Goes.step (fun _ k => XS.iloadN X.here hx rfl (hb hby d1_36) rfl k) ?_
    show Goes p e below s _ _ _ T (mkF m 37 #[.val (.int p1)] [(.int p1)])
    refine Goes.step (fun _ k => XS.bipush X.here hx rfl (hb hby d1_37) k) ?_
    show Goes p e below s _ _ _ T (mkF m 39 #[.val (.int p1)] [(.int (123 : Int32)), (.int p1)])
    refine Goes.ite (Q := PI h0) (fun hc39 => ?_) (fun hc39 => ?_)
    · refine Goes.step (fun _ k => XS.icmpYes X.here hx rfl (pc0 := 39) (pc' := 52) rfl (hb hby d1_39) rfl (tlt hc39).1 (by decide) (by decide) k) ?_
      show Goes p e below s _ _ _ T (mkF m 52 #[.val (.int p1)] [])
      exact B52 T X eT trivial
    · refine Goes.step (fun _ k => XS.icmpNo X.here hx rfl (hb hby d1_39) rfl (flt hc39).1 k) ?_
      show Goes p e below s _ _ _ T (mkF m 42 #[.val (.int p1)] [])
      refine Goes.step (fun _ k => XS.iloadN X.here hx rfl (hb hby d1_42) rfl k) ?_
      show Goes p e below s _ _ _ T (mkF m 43 #[.val (.int p1)] [(.int p1)])
      refine Goes.step (fun _ k => XS.bipush X.here hx rfl (hb hby d1_43) k) ?_
      show Goes p e below s _ _ _ T (mkF m 45 #[.val (.int p1)] [(.int (126 : Int32)), (.int p1)])
      refine Goes.ite (Q := PI h0) (fun hc45 => ?_) (fun hc45 => ?_)
      · refine Goes.step (fun _ k => XS.icmpYes X.here hx rfl (pc0 := 45) (pc' := 52) rfl (hb hby d1_45) rfl (tlt hc45).2.2.1 (by decide) (by decide) k) ?_
        show Goes p e below s _ _ _ T (mkF m 52 #[.val (.int p1)] [])
        exact B52 T X eT trivial
      · refine Goes.step (fun _ k => XS.icmpNo X.here hx rfl (hb hby d1_45) rfl (flt hc45).2.2.1 k) ?_
        show Goes p e below s _ _ _ T (mkF m 48 #[.val (.int p1)] [])
        exact B48 T X eT trivial
  have B24 : ∀ (T : State), Stand p l e ({ frames := 0, cells := 0, slots := 0, locals := 0 } : Room) s m #[(.int p1)] below meth c T [] 0 0 → T.heap = h0 → ∀ (_ : True), Goes p e below s ({ frames := 0, cells := 0, slots := 0, locals := 0 } : Room).cells ({ frames := 0, cells := 0, slots := 0, locals := 0 } : Room).slots (PI h0 (f1_24 p1)) T (mkF m 24 #[.val (.int p1)] []) := by
    intro T X eT _
    refine Goes.step (fun _ k => XS.iloadN X.here hx rfl (hb hby d1_24) rfl k) ?_
    show Goes p e below s _ _ _ T (mkF m 25 #[.val (.int p1)] [(.int p1)])
    refine Goes.step (fun _ k => XS.bipush X.here hx rfl (hb hby d1_25) k) ?_
    show Goes p e below s _ _ _ T (mkF m 27 #[.val (.int p1)] [(.int (91 : Int32)), (.int p1)])
    refine Goes.ite (Q := PI h0) (fun hc27 => ?_) (fun hc27 => ?_)
    · refine Goes.step (fun _ k => XS.icmpYes X.here hx rfl (pc0 := 27) (pc' := 36) rfl (hb hby d1_27) rfl (tlt hc27).1 (by decide) (by decide) k) ?_
      show Goes p e below s _ _ _ T (mkF m 36 #[.val (.int p1)] [])
      exact B36 T X eT trivial
    · refine Goes.step (fun _ k => XS.icmpNo X.here hx rfl (hb hby d1_27) rfl (flt hc27).1 k) ?_
      show Goes p e below s _ _ _ T (mkF m 30 #[.val (.int p1)] [])
      refine Goes.step (fun _ k => XS.iloadN X.here hx rfl (hb hby d1_30) rfl k) ?_
      show Goes p e below s _ _ _ T (mkF m 31 #[.val (.int p1)] [(.int p1)])
      refine Goes.step (fun _ k => XS.bipush X.here hx rfl (hb hby d1_31) k) ?_
      show Goes p e below s _ _ _ T (mkF m 33 #[.val (.int p1)] [(.int (96 : Int32)), (.int p1)])
      refine Goes.ite (Q := PI h0) (fun hc33 => ?_) (fun hc33 => ?_)
      · refine Goes.step (fun _ k => XS.icmpNo X.here hx rfl (hb hby d1_33) rfl (tlt hc33).2.2.2 k) ?_
        show Goes p e below s _ _ _ T (mkF m 36 #[.val (.int p1)] [])
        exact B36 T X eT trivial
      · refine Goes.step (fun _ k => XS.icmpYes X.here hx rfl (pc0 := 33) (pc' := 48) rfl (hb hby d1_33) rfl (flt hc33).2.2.2 (by decide) (by decide) k) ?_
        show Goes p e below s _ _ _ T (mkF m 48 #[.val (.int p1)] [])
        exact B48 T X eT trivial
  have B12 : ∀ (T : State), Stand p l e ({ frames := 0, cells := 0, slots := 0, locals := 0 } : Room) s m #[(.int p1)] below meth c T [] 0 0 → T.heap = h0 → ∀ (_ : True), Goes p e below s ({ frames := 0, cells := 0, slots := 0, locals := 0 } : Room).cells ({ frames := 0, cells := 0, slots := 0, locals := 0 } : Room).slots (PI h0 (f1_12 p1)) T (mkF m 12 #[.val (.int p1)] []) := by
    intro T X eT _
    refine Goes.step (fun _ k => XS.iloadN X.here hx rfl (hb hby d1_12) rfl k) ?_
    show Goes p e below s _ _ _ T (mkF m 13 #[.val (.int p1)] [(.int p1)])
    refine Goes.step (fun _ k => XS.bipush X.here hx rfl (hb hby d1_13) k) ?_
    show Goes p e below s _ _ _ T (mkF m 15 #[.val (.int p1)] [(.int (58 : Int32)), (.int p1)])
    refine Goes.ite (Q := PI h0) (fun hc15 => ?_) (fun hc15 => ?_)
    · refine Goes.step (fun _ k => XS.icmpYes X.here hx rfl (pc0 := 15) (pc' := 24) rfl (hb hby d1_15) rfl (tlt hc15).1 (by decide) (by decide) k) ?_
      show Goes p e below s _ _ _ T (mkF m 24 #[.val (.int p1)] [])
      exact B24 T X eT trivial
    · refine Goes.step (fun _ k => XS.icmpNo X.here hx rfl (hb hby d1_15) rfl (flt hc15).1 k) ?_
      show Goes p e below s _ _ _ T (mkF m 18 #[.val (.int p1)] [])
      refine Goes.step (fun _ k => XS.iloadN X.here hx rfl (hb hby d1_18) rfl k) ?_
      show Goes p e below s _ _ _ T (mkF m 19 #[.val (.int p1)] [(.int p1)])
      refine Goes.step (fun _ k => XS.bipush X.here hx rfl (hb hby d1_19) k) ?_
      show Goes p e below s _ _ _ T (mkF m 21 #[.val (.int p1)] [(.int (64 : Int32)), (.int p1)])
      refine Goes.ite (Q := PI h0) (fun hc21 => ?_) (fun hc21 => ?_)
      · refine Goes.step (fun _ k => XS.icmpNo X.here hx rfl (hb hby d1_21) rfl (tlt hc21).2.2.2 k) ?_
        show Goes p e below s _ _ _ T (mkF m 24 #[.val (.int p1)] [])
        exact B24 T X eT trivial
      · refine Goes.step (fun _ k => XS.icmpYes X.here hx rfl (pc0 := 21) (pc' := 48) rfl (hb hby d1_21) rfl (flt hc21).2.2.2 (by decide) (by decide) k) ?_
        show Goes p e below s _ _ _ T (mkF m 48 #[.val (.int p1)] [])
        exact B48 T X eT trivial
  show Goes p e below s ({ frames := 0, cells := 0, slots := 0, locals := 0 } : Room).cells ({ frames := 0, cells := 0, slots := 0, locals := 0 } : Room).slots (PI h0 (f1 p1)) s₁ (entryFrame m #[(.int p1)] 1)
  refine Goes.step (fun t k => castTop (ef_1 m p1) k) ?_
  refine Goes.step (fun _ k => XS.iloadN X0.here hx rfl (hb hby d1_0) rfl k) ?_
  show Goes p e below s _ _ _ s₁ (mkF m 1 #[.val (.int p1)] [(.int p1)])
  refine Goes.step (fun _ k => XS.bipush X0.here hx rfl (hb hby d1_1) k) ?_
  show Goes p e below s _ _ _ s₁ (mkF m 3 #[.val (.int p1)] [(.int (33 : Int32)), (.int p1)])
  refine Goes.ite (Q := PI h0) (fun hc3 => ?_) (fun hc3 => ?_)
  · refine Goes.step (fun _ k => XS.icmpYes X0.here hx rfl (pc0 := 3) (pc' := 12) rfl (hb hby d1_3) rfl (tlt hc3).1 (by decide) (by decide) k) ?_
    show Goes p e below s _ _ _ s₁ (mkF m 12 #[.val (.int p1)] [])
    exact B12 s₁ X0 e0 trivial
  · refine Goes.step (fun _ k => XS.icmpNo X0.here hx rfl (hb hby d1_3) rfl (flt hc3).1 k) ?_
    show Goes p e below s _ _ _ s₁ (mkF m 6 #[.val (.int p1)] [])
    refine Goes.step (fun _ k => XS.iloadN X0.here hx rfl (hb hby d1_6) rfl k) ?_
    show Goes p e below s _ _ _ s₁ (mkF m 7 #[.val (.int p1)] [(.int p1)])
    refine Goes.step (fun _ k => XS.bipush X0.here hx rfl (hb hby d1_7) k) ?_
    show Goes p e below s _ _ _ s₁ (mkF m 9 #[.val (.int p1)] [(.int (47 : Int32)), (.int p1)])
    refine Goes.ite (Q := PI h0) (fun hc9 => ?_) (fun hc9 => ?_)
    · refine Goes.step (fun _ k => XS.icmpNo X0.here hx rfl (hb hby d1_9) rfl (tlt hc9).2.2.2 k) ?_
      show Goes p e below s _ _ _ s₁ (mkF m 12 #[.val (.int p1)] [])
      exact B12 s₁ X0 e0 trivial
    · refine Goes.step (fun _ k => XS.icmpYes X0.here hx rfl (pc0 := 9) (pc' := 48) rfl (hb hby d1_9) rfl (flt hc9).2.2.2 (by decide) (by decide) k) ?_
      show Goes p e below s _ _ _ s₁ (mkF m 48 #[.val (.int p1)] [])
      exact B48 s₁ X0 e0 trivial
theorem pd_0_0 : parseMethodDescriptor "(C)Z" = some ⟨[.char], some .boolean⟩ := by decide +kernel
theorem pn_0 : plainName "com/example/recital/recital/io/MarkdownLinksIsEscapablePinLaw" = true := by first | (simp [plainName, overriddenIn]; done) | decide +kernel
theorem ef_0 (m : MethodId) (p1 : Int32) : entryFrame m #[(.int p1)] maxLocals = mkF m 0 #[.val (.int p1), .unset, .unset, .unset, .unset, .unset, .unset] [] := by first | (simp [entryFrame, mkF, argsToLocals, Value.category, maxLocals]; done) | rfl
def f0_100 (p1 : Int32) (v2_100 : Int32) (v3_100 : Int32) (v4_100 : Int32) (v5_100 : Int32) (t0_100 : Int32) : Int32 := (if ((f1 (p1.toUInt32.toUInt16.toUInt32.toInt32)) = t0_100) then (1 : Int32) else (0 : Int32))
def f0_99 (p1 : Int32) (v2_99 : Int32) (v3_99 : Int32) (v4_99 : Int32) (v5_99 : Int32) : Int32 := (f0_100 p1 v2_99 v3_99 v4_99 v5_99 (0 : Int32))
def f0_75 (p1 : Int32) (v2_75 : Int32) (v3_75 : Int32) (v4_75 : Int32) (t0_75 : Int32) : Int32 := (if (v2_75 = (0 : Int32)) then (f0_99 p1 v2_75 v3_75 v4_75 t0_75) else (if (v3_75 = (0 : Int32)) then (if (v4_75 = (0 : Int32)) then (if (t0_75 = (0 : Int32)) then (f0_100 p1 v2_75 v3_75 v4_75 t0_75 (1 : Int32)) else (f0_99 p1 v2_75 v3_75 v4_75 t0_75)) else (f0_99 p1 v2_75 v3_75 v4_75 t0_75)) else (f0_99 p1 v2_75 v3_75 v4_75 t0_75)))
def f0_74 (p1 : Int32) (v2_74 : Int32) (v3_74 : Int32) (v4_74 : Int32) : Int32 := (f0_75 p1 v2_74 v3_74 v4_74 (0 : Int32))
def f0_56 (p1 : Int32) (v2_56 : Int32) (v3_56 : Int32) (t0_56 : Int32) : Int32 := (if ((p1.toUInt32.toUInt16.toUInt32.toInt32) < (97 : Int32)) then (f0_74 p1 v2_56 v3_56 t0_56) else (if ((122 : Int32) < (p1.toUInt32.toUInt16.toUInt32.toInt32)) then (f0_74 p1 v2_56 v3_56 t0_56) else (f0_75 p1 v2_56 v3_56 t0_56 (1 : Int32))))
def f0_55 (p1 : Int32) (v2_55 : Int32) (v3_55 : Int32) : Int32 := (f0_56 p1 v2_55 v3_55 (0 : Int32))
def f0_38 (p1 : Int32) (v2_38 : Int32) (t0_38 : Int32) : Int32 := (if ((p1.toUInt32.toUInt16.toUInt32.toInt32) < (65 : Int32)) then (f0_55 p1 v2_38 t0_38) else (if ((90 : Int32) < (p1.toUInt32.toUInt16.toUInt32.toInt32)) then (f0_55 p1 v2_38 t0_38) else (f0_56 p1 v2_38 t0_38 (1 : Int32))))
def f0_37 (p1 : Int32) (v2_37 : Int32) : Int32 := (f0_38 p1 v2_37 (0 : Int32))
def f0_20 (p1 : Int32) (t0_20 : Int32) : Int32 := (if ((p1.toUInt32.toUInt16.toUInt32.toInt32) < (48 : Int32)) then (f0_37 p1 t0_20) else (if ((57 : Int32) < (p1.toUInt32.toUInt16.toUInt32.toInt32)) then (f0_37 p1 t0_20) else (f0_38 p1 t0_20 (1 : Int32))))
def f0_19 (p1 : Int32) : Int32 := (f0_20 p1 (0 : Int32))
def f0 (p1 : Int32) : Int32 := (if ((p1.toUInt32.toUInt16.toUInt32.toInt32) < (33 : Int32)) then (f0_19 p1) else (if ((126 : Int32) < (p1.toUInt32.toUInt16.toUInt32.toInt32)) then (f0_19 p1) else (f0_20 p1 (1 : Int32))))
set_option maxRecDepth 65536 in
set_option maxHeartbeats 40000000 in
theorem rm0 (l : Launch) (Z : State) (a0 : Array Value) (hw : ∀ d ∈ tables_1, d.before a0 Z = true) (ws : List Jvm.Cond) (p1 : Int32) (h0 : Heap)  :
    MetFree l x (head1 (Jvm.Cond.code x code maxLocals ret :: ws) room_1) (fun a U => a = #[(.int p1)] ∧ Z.Warmed39 U.vm ∧ U.heap = h0) (fun _ _ _ _ _ => True) (fun _ U o U' => ∃ v L, o = .returned v ∧ PI h0 (f0 p1) v U'.heap L ∧ FrameEnd U o U' L room_1.cells room_1.slots) := by
  refine MetFree.of_bodySF (plainFor_of_name pn_0) hisR ?_
  intro p e s m args below meth c s₁ Bd hml0 hP hK
  obtain ⟨rfl, hZ, hh⟩ := hP
  have hx := Bd.exec
  have hby := Bd.bytes
  have hlk := Bd.notSynchronized
  have hml : c.maxLocals = 7 := hml0
  have hown : s.vm.findClass "com/example/recital/recital/io/MarkdownLinksIsEscapablePinLaw" = some m.cls := findClass_of_methodNamed Bd.named
  have X0 : Stand p l e room_1 s m #[(.int p1)] below meth c s₁ [] 0 0 := Stand.of_body Bd
  have e0 : s₁.heap = h0 := by rw [← hh, Bd.state]; rfl
  have B100 : ∀ (T : State), Stand p l e room_1 s m #[(.int p1)] below meth c T [] 0 0 → T.heap = h0 → ∀ (v2_100 : Int32) (v3_100 : Int32) (v4_100 : Int32) (v5_100 : Int32) (t0_100 : Int32), Goes p e below s room_1.cells room_1.slots (PI h0 (f0_100 p1 v2_100 v3_100 v4_100 v5_100 t0_100)) T (mkF m 100 #[.val (.int p1), .val (.int (p1.toUInt32.toUInt16.toUInt32.toInt32)), .val (.int v2_100), .val (.int v3_100), .val (.int v4_100), .val (.int v5_100), .unset] [(.int t0_100)]) := by
    intro T X eT v2_100 v3_100 v4_100 v5_100 t0_100
    refine Goes.step (fun _ k => XS.istore X.here hx rfl (hb hby at_100) rfl (l' := #[.val (.int p1), .val (.int (p1.toUInt32.toUInt16.toUInt32.toInt32)), .val (.int v2_100), .val (.int v3_100), .val (.int v4_100), .val (.int v5_100), .val (.int t0_100)]) rfl k) ?_
    show Goes p e below s _ _ _ T (mkF m 102 #[.val (.int p1), .val (.int (p1.toUInt32.toUInt16.toUInt32.toInt32)), .val (.int v2_100), .val (.int v3_100), .val (.int v4_100), .val (.int v5_100), .val (.int t0_100)] [])
    refine Goes.step (fun _ k => XS.iloadN X.here hx rfl (hb hby at_102) rfl k) ?_
    show Goes p e below s _ _ _ T (mkF m 103 #[.val (.int p1), .val (.int (p1.toUInt32.toUInt16.toUInt32.toInt32)), .val (.int v2_100), .val (.int v3_100), .val (.int v4_100), .val (.int v5_100), .val (.int t0_100)] [(.int (p1.toUInt32.toUInt16.toUInt32.toInt32))])
    obtain ⟨T1, X1, e1, st1⟩ := callPure X hx hZ (y := (⟨"com/example/recital/recital/io/MarkdownLinks", "isEscapable", "(C)Z"⟩ : MethodName)) hown (hw _ (List.mem_of_getElem? (i := 0) rfl)) (hw _ (List.mem_of_getElem? (i := 1) rfl)) (hw _ (List.mem_of_getElem? (i := 2) rfl)) (hw _ (List.mem_of_getElem? (i := 3) rfl)) (by decide) (W := 0) (argsL := [(.int (p1.toUInt32.toUInt16.toUInt32.toInt32))]) (rest := []) (r := (.int (f1 (p1.toUInt32.toUInt16.toUInt32.toInt32)))) (fun _ _ _ q => q) (rm1 l Z a0 hw [] (p1.toUInt32.toUInt16.toUInt32.toInt32) h0 ) (by decide) (by decide) (by decide) (by decide) eT (g := (mkF m 103 #[.val (.int p1), .val (.int (p1.toUInt32.toUInt16.toUInt32.toInt32)), .val (.int v2_100), .val (.int v3_100), .val (.int v4_100), .val (.int v5_100), .val (.int t0_100)] [(.int (p1.toUInt32.toUInt16.toUInt32.toInt32))])) rfl (by rw [hml]; rfl) (lenOf pd_0_0 rfl) rfl (by show 2 * 0 + _ ≤ _; exact Nat.le_of_eq rfl) (hb hby at_103)
    refine Goes.step st1 ?_
    show Goes p e below s _ _ _ T1 (mkF m 106 #[.val (.int p1), .val (.int (p1.toUInt32.toUInt16.toUInt32.toInt32)), .val (.int v2_100), .val (.int v3_100), .val (.int v4_100), .val (.int v5_100), .val (.int t0_100)] [(.int (f1 (p1.toUInt32.toUInt16.toUInt32.toInt32)))])
    refine Goes.step (fun _ k => XS.iload X1.here hx rfl (hb hby at_106) rfl k) ?_
    show Goes p e below s _ _ _ T1 (mkF m 108 #[.val (.int p1), .val (.int (p1.toUInt32.toUInt16.toUInt32.toInt32)), .val (.int v2_100), .val (.int v3_100), .val (.int v4_100), .val (.int v5_100), .val (.int t0_100)] [(.int t0_100), (.int (f1 (p1.toUInt32.toUInt16.toUInt32.toInt32)))])
    refine Goes.ite (Q := PI h0) (fun hc108 => ?_) (fun hc108 => ?_)
    · refine Goes.step (fun _ k => XS.icmpNo X1.here hx rfl (hb hby at_108) rfl (teq hc108).2 k) ?_
      show Goes p e below s _ _ _ T1 (mkF m 111 #[.val (.int p1), .val (.int (p1.toUInt32.toUInt16.toUInt32.toInt32)), .val (.int v2_100), .val (.int v3_100), .val (.int v4_100), .val (.int v5_100), .val (.int t0_100)] [])
      refine Goes.step (fun _ k => XS.iconst X1.here hx rfl (hb hby at_111) k) ?_
      show Goes p e below s _ _ _ T1 (mkF m 112 #[.val (.int p1), .val (.int (p1.toUInt32.toUInt16.toUInt32.toInt32)), .val (.int v2_100), .val (.int v3_100), .val (.int v4_100), .val (.int v5_100), .val (.int t0_100)] [(.int (1 : Int32))])
      refine Goes.step (fun _ k => XS.goto X1.here hx rfl (pc0 := 112) (pc' := 116) rfl (hb hby at_112) (by decide) (by decide) k) ?_
      show Goes p e below s _ _ _ T1 (mkF m 116 #[.val (.int p1), .val (.int (p1.toUInt32.toUInt16.toUInt32.toInt32)), .val (.int v2_100), .val (.int v3_100), .val (.int v4_100), .val (.int v5_100), .val (.int t0_100)] [(.int (1 : Int32))])
      exact Goes.outN X1 hx hlk (t := .boolean) Bd.returns (by simp) (hb hby at_116) ⟨rfl, rfl, e1⟩ (by decide) (by decide)
    · refine Goes.step (fun _ k => XS.icmpYes X1.here hx rfl (pc0 := 108) (pc' := 115) rfl (hb hby at_108) rfl (feq hc108).2 (by decide) (by decide) k) ?_
      show Goes p e below s _ _ _ T1 (mkF m 115 #[.val (.int p1), .val (.int (p1.toUInt32.toUInt16.toUInt32.toInt32)), .val (.int v2_100), .val (.int v3_100), .val (.int v4_100), .val (.int v5_100), .val (.int t0_100)] [])
      refine Goes.step (fun _ k => XS.iconst X1.here hx rfl (hb hby at_115) k) ?_
      show Goes p e below s _ _ _ T1 (mkF m 116 #[.val (.int p1), .val (.int (p1.toUInt32.toUInt16.toUInt32.toInt32)), .val (.int v2_100), .val (.int v3_100), .val (.int v4_100), .val (.int v5_100), .val (.int t0_100)] [(.int (0 : Int32))])
      exact Goes.outN X1 hx hlk (t := .boolean) Bd.returns (by simp) (hb hby at_116) ⟨rfl, rfl, e1⟩ (by decide) (by decide)
  have B99 : ∀ (T : State), Stand p l e room_1 s m #[(.int p1)] below meth c T [] 0 0 → T.heap = h0 → ∀ (v2_99 : Int32) (v3_99 : Int32) (v4_99 : Int32) (v5_99 : Int32), Goes p e below s room_1.cells room_1.slots (PI h0 (f0_99 p1 v2_99 v3_99 v4_99 v5_99)) T (mkF m 99 #[.val (.int p1), .val (.int (p1.toUInt32.toUInt16.toUInt32.toInt32)), .val (.int v2_99), .val (.int v3_99), .val (.int v4_99), .val (.int v5_99), .unset] []) := by
    intro T X eT v2_99 v3_99 v4_99 v5_99
    refine Goes.step (fun _ k => XS.iconst X.here hx rfl (hb hby at_99) k) ?_
    show Goes p e below s _ _ _ T (mkF m 100 #[.val (.int p1), .val (.int (p1.toUInt32.toUInt16.toUInt32.toInt32)), .val (.int v2_99), .val (.int v3_99), .val (.int v4_99), .val (.int v5_99), .unset] [(.int (0 : Int32))])
    exact B100 T X eT v2_99 v3_99 v4_99 v5_99 (0 : Int32)
  have B75 : ∀ (T : State), Stand p l e room_1 s m #[(.int p1)] below meth c T [] 0 0 → T.heap = h0 → ∀ (v2_75 : Int32) (v3_75 : Int32) (v4_75 : Int32) (t0_75 : Int32), Goes p e below s room_1.cells room_1.slots (PI h0 (f0_75 p1 v2_75 v3_75 v4_75 t0_75)) T (mkF m 75 #[.val (.int p1), .val (.int (p1.toUInt32.toUInt16.toUInt32.toInt32)), .val (.int v2_75), .val (.int v3_75), .val (.int v4_75), .unset, .unset] [(.int t0_75)]) := by
    intro T X eT v2_75 v3_75 v4_75 t0_75
    refine Goes.step (fun _ k => XS.istore X.here hx rfl (hb hby at_75) rfl (l' := #[.val (.int p1), .val (.int (p1.toUInt32.toUInt16.toUInt32.toInt32)), .val (.int v2_75), .val (.int v3_75), .val (.int v4_75), .val (.int t0_75), .unset]) rfl k) ?_
    show Goes p e below s _ _ _ T (mkF m 77 #[.val (.int p1), .val (.int (p1.toUInt32.toUInt16.toUInt32.toInt32)), .val (.int v2_75), .val (.int v3_75), .val (.int v4_75), .val (.int t0_75), .unset] [])
    refine Goes.step (fun _ k => XS.iloadN X.here hx rfl (hb hby at_77) rfl k) ?_
    show Goes p e below s _ _ _ T (mkF m 78 #[.val (.int p1), .val (.int (p1.toUInt32.toUInt16.toUInt32.toInt32)), .val (.int v2_75), .val (.int v3_75), .val (.int v4_75), .val (.int t0_75), .unset] [(.int v2_75)])
    refine Goes.ite (Q := PI h0) (fun hc78 => ?_) (fun hc78 => ?_)
    · refine Goes.step (fun _ k => XS.ifYes X.here hx rfl (pc0 := 78) (pc' := 99) rfl (hb hby at_78) rfl ((if0 _ _).trans (teq hc78).1) (by decide) (by decide) k) ?_
      show Goes p e below s _ _ _ T (mkF m 99 #[.val (.int p1), .val (.int (p1.toUInt32.toUInt16.toUInt32.toInt32)), .val (.int v2_75), .val (.int v3_75), .val (.int v4_75), .val (.int t0_75), .unset] [])
      exact B99 T X eT v2_75 v3_75 v4_75 t0_75
    · refine Goes.step (fun _ k => XS.ifNo X.here hx rfl (hb hby at_78) rfl ((if0 _ _).trans (feq hc78).1) k) ?_
      show Goes p e below s _ _ _ T (mkF m 81 #[.val (.int p1), .val (.int (p1.toUInt32.toUInt16.toUInt32.toInt32)), .val (.int v2_75), .val (.int v3_75), .val (.int v4_75), .val (.int t0_75), .unset] [])
      refine Goes.step (fun _ k => XS.iloadN X.here hx rfl (hb hby at_81) rfl k) ?_
      show Goes p e below s _ _ _ T (mkF m 82 #[.val (.int p1), .val (.int (p1.toUInt32.toUInt16.toUInt32.toInt32)), .val (.int v2_75), .val (.int v3_75), .val (.int v4_75), .val (.int t0_75), .unset] [(.int v3_75)])
      refine Goes.ite (Q := PI h0) (fun hc82 => ?_) (fun hc82 => ?_)
      · refine Goes.step (fun _ k => XS.ifNo X.here hx rfl (hb hby at_82) rfl ((if0 _ _).trans (teq hc82).2) k) ?_
        show Goes p e below s _ _ _ T (mkF m 85 #[.val (.int p1), .val (.int (p1.toUInt32.toUInt16.toUInt32.toInt32)), .val (.int v2_75), .val (.int v3_75), .val (.int v4_75), .val (.int t0_75), .unset] [])
        refine Goes.step (fun _ k => XS.iload X.here hx rfl (hb hby at_85) rfl k) ?_
        show Goes p e below s _ _ _ T (mkF m 87 #[.val (.int p1), .val (.int (p1.toUInt32.toUInt16.toUInt32.toInt32)), .val (.int v2_75), .val (.int v3_75), .val (.int v4_75), .val (.int t0_75), .unset] [(.int v4_75)])
        refine Goes.ite (Q := PI h0) (fun hc87 => ?_) (fun hc87 => ?_)
        · refine Goes.step (fun _ k => XS.ifNo X.here hx rfl (hb hby at_87) rfl ((if0 _ _).trans (teq hc87).2) k) ?_
          show Goes p e below s _ _ _ T (mkF m 90 #[.val (.int p1), .val (.int (p1.toUInt32.toUInt16.toUInt32.toInt32)), .val (.int v2_75), .val (.int v3_75), .val (.int v4_75), .val (.int t0_75), .unset] [])
          refine Goes.step (fun _ k => XS.iload X.here hx rfl (hb hby at_90) rfl k) ?_
          show Goes p e below s _ _ _ T (mkF m 92 #[.val (.int p1), .val (.int (p1.toUInt32.toUInt16.toUInt32.toInt32)), .val (.int v2_75), .val (.int v3_75), .val (.int v4_75), .val (.int t0_75), .unset] [(.int t0_75)])
          refine Goes.ite (Q := PI h0) (fun hc92 => ?_) (fun hc92 => ?_)
          · refine Goes.step (fun _ k => XS.ifNo X.here hx rfl (hb hby at_92) rfl ((if0 _ _).trans (teq hc92).2) k) ?_
            show Goes p e below s _ _ _ T (mkF m 95 #[.val (.int p1), .val (.int (p1.toUInt32.toUInt16.toUInt32.toInt32)), .val (.int v2_75), .val (.int v3_75), .val (.int v4_75), .val (.int t0_75), .unset] [])
            refine Goes.step (fun _ k => XS.iconst X.here hx rfl (hb hby at_95) k) ?_
            show Goes p e below s _ _ _ T (mkF m 96 #[.val (.int p1), .val (.int (p1.toUInt32.toUInt16.toUInt32.toInt32)), .val (.int v2_75), .val (.int v3_75), .val (.int v4_75), .val (.int t0_75), .unset] [(.int (1 : Int32))])
            refine Goes.step (fun _ k => XS.goto X.here hx rfl (pc0 := 96) (pc' := 100) rfl (hb hby at_96) (by decide) (by decide) k) ?_
            show Goes p e below s _ _ _ T (mkF m 100 #[.val (.int p1), .val (.int (p1.toUInt32.toUInt16.toUInt32.toInt32)), .val (.int v2_75), .val (.int v3_75), .val (.int v4_75), .val (.int t0_75), .unset] [(.int (1 : Int32))])
            exact B100 T X eT v2_75 v3_75 v4_75 t0_75 (1 : Int32)
          · refine Goes.step (fun _ k => XS.ifYes X.here hx rfl (pc0 := 92) (pc' := 99) rfl (hb hby at_92) rfl ((if0 _ _).trans (feq hc92).2) (by decide) (by decide) k) ?_
            show Goes p e below s _ _ _ T (mkF m 99 #[.val (.int p1), .val (.int (p1.toUInt32.toUInt16.toUInt32.toInt32)), .val (.int v2_75), .val (.int v3_75), .val (.int v4_75), .val (.int t0_75), .unset] [])
            exact B99 T X eT v2_75 v3_75 v4_75 t0_75
        · refine Goes.step (fun _ k => XS.ifYes X.here hx rfl (pc0 := 87) (pc' := 99) rfl (hb hby at_87) rfl ((if0 _ _).trans (feq hc87).2) (by decide) (by decide) k) ?_
          show Goes p e below s _ _ _ T (mkF m 99 #[.val (.int p1), .val (.int (p1.toUInt32.toUInt16.toUInt32.toInt32)), .val (.int v2_75), .val (.int v3_75), .val (.int v4_75), .val (.int t0_75), .unset] [])
          exact B99 T X eT v2_75 v3_75 v4_75 t0_75
      · refine Goes.step (fun _ k => XS.ifYes X.here hx rfl (pc0 := 82) (pc' := 99) rfl (hb hby at_82) rfl ((if0 _ _).trans (feq hc82).2) (by decide) (by decide) k) ?_
        show Goes p e below s _ _ _ T (mkF m 99 #[.val (.int p1), .val (.int (p1.toUInt32.toUInt16.toUInt32.toInt32)), .val (.int v2_75), .val (.int v3_75), .val (.int v4_75), .val (.int t0_75), .unset] [])
        exact B99 T X eT v2_75 v3_75 v4_75 t0_75
  have B74 : ∀ (T : State), Stand p l e room_1 s m #[(.int p1)] below meth c T [] 0 0 → T.heap = h0 → ∀ (v2_74 : Int32) (v3_74 : Int32) (v4_74 : Int32), Goes p e below s room_1.cells room_1.slots (PI h0 (f0_74 p1 v2_74 v3_74 v4_74)) T (mkF m 74 #[.val (.int p1), .val (.int (p1.toUInt32.toUInt16.toUInt32.toInt32)), .val (.int v2_74), .val (.int v3_74), .val (.int v4_74), .unset, .unset] []) := by
    intro T X eT v2_74 v3_74 v4_74
    refine Goes.step (fun _ k => XS.iconst X.here hx rfl (hb hby at_74) k) ?_
    show Goes p e below s _ _ _ T (mkF m 75 #[.val (.int p1), .val (.int (p1.toUInt32.toUInt16.toUInt32.toInt32)), .val (.int v2_74), .val (.int v3_74), .val (.int v4_74), .unset, .unset] [(.int (0 : Int32))])
    exact B75 T X eT v2_74 v3_74 v4_74 (0 : Int32)
  have B56 : ∀ (T : State), Stand p l e room_1 s m #[(.int p1)] below meth c T [] 0 0 → T.heap = h0 → ∀ (v2_56 : Int32) (v3_56 : Int32) (t0_56 : Int32), Goes p e below s room_1.cells room_1.slots (PI h0 (f0_56 p1 v2_56 v3_56 t0_56)) T (mkF m 56 #[.val (.int p1), .val (.int (p1.toUInt32.toUInt16.toUInt32.toInt32)), .val (.int v2_56), .val (.int v3_56), .unset, .unset, .unset] [(.int t0_56)]) := by
    intro T X eT v2_56 v3_56 t0_56
    refine Goes.step (fun _ k => XS.istore X.here hx rfl (hb hby at_56) rfl (l' := #[.val (.int p1), .val (.int (p1.toUInt32.toUInt16.toUInt32.toInt32)), .val (.int v2_56), .val (.int v3_56), .val (.int t0_56), .unset, .unset]) rfl k) ?_
    show Goes p e below s _ _ _ T (mkF m 58 #[.val (.int p1), .val (.int (p1.toUInt32.toUInt16.toUInt32.toInt32)), .val (.int v2_56), .val (.int v3_56), .val (.int t0_56), .unset, .unset] [])
    refine Goes.step (fun _ k => XS.iloadN X.here hx rfl (hb hby at_58) rfl k) ?_
    show Goes p e below s _ _ _ T (mkF m 59 #[.val (.int p1), .val (.int (p1.toUInt32.toUInt16.toUInt32.toInt32)), .val (.int v2_56), .val (.int v3_56), .val (.int t0_56), .unset, .unset] [(.int (p1.toUInt32.toUInt16.toUInt32.toInt32))])
    refine Goes.step (fun _ k => XS.bipush X.here hx rfl (hb hby at_59) k) ?_
    show Goes p e below s _ _ _ T (mkF m 61 #[.val (.int p1), .val (.int (p1.toUInt32.toUInt16.toUInt32.toInt32)), .val (.int v2_56), .val (.int v3_56), .val (.int t0_56), .unset, .unset] [(.int (97 : Int32)), (.int (p1.toUInt32.toUInt16.toUInt32.toInt32))])
    refine Goes.ite (Q := PI h0) (fun hc61 => ?_) (fun hc61 => ?_)
    · refine Goes.step (fun _ k => XS.icmpYes X.here hx rfl (pc0 := 61) (pc' := 74) rfl (hb hby at_61) rfl (tlt hc61).1 (by decide) (by decide) k) ?_
      show Goes p e below s _ _ _ T (mkF m 74 #[.val (.int p1), .val (.int (p1.toUInt32.toUInt16.toUInt32.toInt32)), .val (.int v2_56), .val (.int v3_56), .val (.int t0_56), .unset, .unset] [])
      exact B74 T X eT v2_56 v3_56 t0_56
    · refine Goes.step (fun _ k => XS.icmpNo X.here hx rfl (hb hby at_61) rfl (flt hc61).1 k) ?_
      show Goes p e below s _ _ _ T (mkF m 64 #[.val (.int p1), .val (.int (p1.toUInt32.toUInt16.toUInt32.toInt32)), .val (.int v2_56), .val (.int v3_56), .val (.int t0_56), .unset, .unset] [])
      refine Goes.step (fun _ k => XS.iloadN X.here hx rfl (hb hby at_64) rfl k) ?_
      show Goes p e below s _ _ _ T (mkF m 65 #[.val (.int p1), .val (.int (p1.toUInt32.toUInt16.toUInt32.toInt32)), .val (.int v2_56), .val (.int v3_56), .val (.int t0_56), .unset, .unset] [(.int (p1.toUInt32.toUInt16.toUInt32.toInt32))])
      refine Goes.step (fun _ k => XS.bipush X.here hx rfl (hb hby at_65) k) ?_
      show Goes p e below s _ _ _ T (mkF m 67 #[.val (.int p1), .val (.int (p1.toUInt32.toUInt16.toUInt32.toInt32)), .val (.int v2_56), .val (.int v3_56), .val (.int t0_56), .unset, .unset] [(.int (122 : Int32)), (.int (p1.toUInt32.toUInt16.toUInt32.toInt32))])
      refine Goes.ite (Q := PI h0) (fun hc67 => ?_) (fun hc67 => ?_)
      · refine Goes.step (fun _ k => XS.icmpYes X.here hx rfl (pc0 := 67) (pc' := 74) rfl (hb hby at_67) rfl (tlt hc67).2.2.1 (by decide) (by decide) k) ?_
        show Goes p e below s _ _ _ T (mkF m 74 #[.val (.int p1), .val (.int (p1.toUInt32.toUInt16.toUInt32.toInt32)), .val (.int v2_56), .val (.int v3_56), .val (.int t0_56), .unset, .unset] [])
        exact B74 T X eT v2_56 v3_56 t0_56
      · refine Goes.step (fun _ k => XS.icmpNo X.here hx rfl (hb hby at_67) rfl (flt hc67).2.2.1 k) ?_
        show Goes p e below s _ _ _ T (mkF m 70 #[.val (.int p1), .val (.int (p1.toUInt32.toUInt16.toUInt32.toInt32)), .val (.int v2_56), .val (.int v3_56), .val (.int t0_56), .unset, .unset] [])
        refine Goes.step (fun _ k => XS.iconst X.here hx rfl (hb hby at_70) k) ?_
        show Goes p e below s _ _ _ T (mkF m 71 #[.val (.int p1), .val (.int (p1.toUInt32.toUInt16.toUInt32.toInt32)), .val (.int v2_56), .val (.int v3_56), .val (.int t0_56), .unset, .unset] [(.int (1 : Int32))])
        refine Goes.step (fun _ k => XS.goto X.here hx rfl (pc0 := 71) (pc' := 75) rfl (hb hby at_71) (by decide) (by decide) k) ?_
        show Goes p e below s _ _ _ T (mkF m 75 #[.val (.int p1), .val (.int (p1.toUInt32.toUInt16.toUInt32.toInt32)), .val (.int v2_56), .val (.int v3_56), .val (.int t0_56), .unset, .unset] [(.int (1 : Int32))])
        exact B75 T X eT v2_56 v3_56 t0_56 (1 : Int32)
  have B55 : ∀ (T : State), Stand p l e room_1 s m #[(.int p1)] below meth c T [] 0 0 → T.heap = h0 → ∀ (v2_55 : Int32) (v3_55 : Int32), Goes p e below s room_1.cells room_1.slots (PI h0 (f0_55 p1 v2_55 v3_55)) T (mkF m 55 #[.val (.int p1), .val (.int (p1.toUInt32.toUInt16.toUInt32.toInt32)), .val (.int v2_55), .val (.int v3_55), .unset, .unset, .unset] []) := by
    intro T X eT v2_55 v3_55
    refine Goes.step (fun _ k => XS.iconst X.here hx rfl (hb hby at_55) k) ?_
    show Goes p e below s _ _ _ T (mkF m 56 #[.val (.int p1), .val (.int (p1.toUInt32.toUInt16.toUInt32.toInt32)), .val (.int v2_55), .val (.int v3_55), .unset, .unset, .unset] [(.int (0 : Int32))])
    exact B56 T X eT v2_55 v3_55 (0 : Int32)
  have B38 : ∀ (T : State), Stand p l e room_1 s m #[(.int p1)] below meth c T [] 0 0 → T.heap = h0 → ∀ (v2_38 : Int32) (t0_38 : Int32), Goes p e below s room_1.cells room_1.slots (PI h0 (f0_38 p1 v2_38 t0_38)) T (mkF m 38 #[.val (.int p1), .val (.int (p1.toUInt32.toUInt16.toUInt32.toInt32)), .val (.int v2_38), .unset, .unset, .unset, .unset] [(.int t0_38)]) := by
    intro T X eT v2_38 t0_38
    refine Goes.step (fun _ k => XS.istoreN X.here hx rfl (hb hby at_38) rfl (l' := #[.val (.int p1), .val (.int (p1.toUInt32.toUInt16.toUInt32.toInt32)), .val (.int v2_38), .val (.int t0_38), .unset, .unset, .unset]) rfl k) ?_
    show Goes p e below s _ _ _ T (mkF m 39 #[.val (.int p1), .val (.int (p1.toUInt32.toUInt16.toUInt32.toInt32)), .val (.int v2_38), .val (.int t0_38), .unset, .unset, .unset] [])
    refine Goes.step (fun _ k => XS.iloadN X.here hx rfl (hb hby at_39) rfl k) ?_
    show Goes p e below s _ _ _ T (mkF m 40 #[.val (.int p1), .val (.int (p1.toUInt32.toUInt16.toUInt32.toInt32)), .val (.int v2_38), .val (.int t0_38), .unset, .unset, .unset] [(.int (p1.toUInt32.toUInt16.toUInt32.toInt32))])
    refine Goes.step (fun _ k => XS.bipush X.here hx rfl (hb hby at_40) k) ?_
    show Goes p e below s _ _ _ T (mkF m 42 #[.val (.int p1), .val (.int (p1.toUInt32.toUInt16.toUInt32.toInt32)), .val (.int v2_38), .val (.int t0_38), .unset, .unset, .unset] [(.int (65 : Int32)), (.int (p1.toUInt32.toUInt16.toUInt32.toInt32))])
    refine Goes.ite (Q := PI h0) (fun hc42 => ?_) (fun hc42 => ?_)
    · refine Goes.step (fun _ k => XS.icmpYes X.here hx rfl (pc0 := 42) (pc' := 55) rfl (hb hby at_42) rfl (tlt hc42).1 (by decide) (by decide) k) ?_
      show Goes p e below s _ _ _ T (mkF m 55 #[.val (.int p1), .val (.int (p1.toUInt32.toUInt16.toUInt32.toInt32)), .val (.int v2_38), .val (.int t0_38), .unset, .unset, .unset] [])
      exact B55 T X eT v2_38 t0_38
    · refine Goes.step (fun _ k => XS.icmpNo X.here hx rfl (hb hby at_42) rfl (flt hc42).1 k) ?_
      show Goes p e below s _ _ _ T (mkF m 45 #[.val (.int p1), .val (.int (p1.toUInt32.toUInt16.toUInt32.toInt32)), .val (.int v2_38), .val (.int t0_38), .unset, .unset, .unset] [])
      refine Goes.step (fun _ k => XS.iloadN X.here hx rfl (hb hby at_45) rfl k) ?_
      show Goes p e below s _ _ _ T (mkF m 46 #[.val (.int p1), .val (.int (p1.toUInt32.toUInt16.toUInt32.toInt32)), .val (.int v2_38), .val (.int t0_38), .unset, .unset, .unset] [(.int (p1.toUInt32.toUInt16.toUInt32.toInt32))])
      refine Goes.step (fun _ k => XS.bipush X.here hx rfl (hb hby at_46) k) ?_
      show Goes p e below s _ _ _ T (mkF m 48 #[.val (.int p1), .val (.int (p1.toUInt32.toUInt16.toUInt32.toInt32)), .val (.int v2_38), .val (.int t0_38), .unset, .unset, .unset] [(.int (90 : Int32)), (.int (p1.toUInt32.toUInt16.toUInt32.toInt32))])
      refine Goes.ite (Q := PI h0) (fun hc48 => ?_) (fun hc48 => ?_)
      · refine Goes.step (fun _ k => XS.icmpYes X.here hx rfl (pc0 := 48) (pc' := 55) rfl (hb hby at_48) rfl (tlt hc48).2.2.1 (by decide) (by decide) k) ?_
        show Goes p e below s _ _ _ T (mkF m 55 #[.val (.int p1), .val (.int (p1.toUInt32.toUInt16.toUInt32.toInt32)), .val (.int v2_38), .val (.int t0_38), .unset, .unset, .unset] [])
        exact B55 T X eT v2_38 t0_38
      · refine Goes.step (fun _ k => XS.icmpNo X.here hx rfl (hb hby at_48) rfl (flt hc48).2.2.1 k) ?_
        show Goes p e below s _ _ _ T (mkF m 51 #[.val (.int p1), .val (.int (p1.toUInt32.toUInt16.toUInt32.toInt32)), .val (.int v2_38), .val (.int t0_38), .unset, .unset, .unset] [])
        refine Goes.step (fun _ k => XS.iconst X.here hx rfl (hb hby at_51) k) ?_
        show Goes p e below s _ _ _ T (mkF m 52 #[.val (.int p1), .val (.int (p1.toUInt32.toUInt16.toUInt32.toInt32)), .val (.int v2_38), .val (.int t0_38), .unset, .unset, .unset] [(.int (1 : Int32))])
        refine Goes.step (fun _ k => XS.goto X.here hx rfl (pc0 := 52) (pc' := 56) rfl (hb hby at_52) (by decide) (by decide) k) ?_
        show Goes p e below s _ _ _ T (mkF m 56 #[.val (.int p1), .val (.int (p1.toUInt32.toUInt16.toUInt32.toInt32)), .val (.int v2_38), .val (.int t0_38), .unset, .unset, .unset] [(.int (1 : Int32))])
        exact B56 T X eT v2_38 t0_38 (1 : Int32)
  have B37 : ∀ (T : State), Stand p l e room_1 s m #[(.int p1)] below meth c T [] 0 0 → T.heap = h0 → ∀ (v2_37 : Int32), Goes p e below s room_1.cells room_1.slots (PI h0 (f0_37 p1 v2_37)) T (mkF m 37 #[.val (.int p1), .val (.int (p1.toUInt32.toUInt16.toUInt32.toInt32)), .val (.int v2_37), .unset, .unset, .unset, .unset] []) := by
    intro T X eT v2_37
    refine Goes.step (fun _ k => XS.iconst X.here hx rfl (hb hby at_37) k) ?_
    show Goes p e below s _ _ _ T (mkF m 38 #[.val (.int p1), .val (.int (p1.toUInt32.toUInt16.toUInt32.toInt32)), .val (.int v2_37), .unset, .unset, .unset, .unset] [(.int (0 : Int32))])
    exact B38 T X eT v2_37 (0 : Int32)
  have B20 : ∀ (T : State), Stand p l e room_1 s m #[(.int p1)] below meth c T [] 0 0 → T.heap = h0 → ∀ (t0_20 : Int32), Goes p e below s room_1.cells room_1.slots (PI h0 (f0_20 p1 t0_20)) T (mkF m 20 #[.val (.int p1), .val (.int (p1.toUInt32.toUInt16.toUInt32.toInt32)), .unset, .unset, .unset, .unset, .unset] [(.int t0_20)]) := by
    intro T X eT t0_20
    refine Goes.step (fun _ k => XS.istoreN X.here hx rfl (hb hby at_20) rfl (l' := #[.val (.int p1), .val (.int (p1.toUInt32.toUInt16.toUInt32.toInt32)), .val (.int t0_20), .unset, .unset, .unset, .unset]) rfl k) ?_
    show Goes p e below s _ _ _ T (mkF m 21 #[.val (.int p1), .val (.int (p1.toUInt32.toUInt16.toUInt32.toInt32)), .val (.int t0_20), .unset, .unset, .unset, .unset] [])
    refine Goes.step (fun _ k => XS.iloadN X.here hx rfl (hb hby at_21) rfl k) ?_
    show Goes p e below s _ _ _ T (mkF m 22 #[.val (.int p1), .val (.int (p1.toUInt32.toUInt16.toUInt32.toInt32)), .val (.int t0_20), .unset, .unset, .unset, .unset] [(.int (p1.toUInt32.toUInt16.toUInt32.toInt32))])
    refine Goes.step (fun _ k => XS.bipush X.here hx rfl (hb hby at_22) k) ?_
    show Goes p e below s _ _ _ T (mkF m 24 #[.val (.int p1), .val (.int (p1.toUInt32.toUInt16.toUInt32.toInt32)), .val (.int t0_20), .unset, .unset, .unset, .unset] [(.int (48 : Int32)), (.int (p1.toUInt32.toUInt16.toUInt32.toInt32))])
    refine Goes.ite (Q := PI h0) (fun hc24 => ?_) (fun hc24 => ?_)
    · refine Goes.step (fun _ k => XS.icmpYes X.here hx rfl (pc0 := 24) (pc' := 37) rfl (hb hby at_24) rfl (tlt hc24).1 (by decide) (by decide) k) ?_
      show Goes p e below s _ _ _ T (mkF m 37 #[.val (.int p1), .val (.int (p1.toUInt32.toUInt16.toUInt32.toInt32)), .val (.int t0_20), .unset, .unset, .unset, .unset] [])
      exact B37 T X eT t0_20
    · refine Goes.step (fun _ k => XS.icmpNo X.here hx rfl (hb hby at_24) rfl (flt hc24).1 k) ?_
      show Goes p e below s _ _ _ T (mkF m 27 #[.val (.int p1), .val (.int (p1.toUInt32.toUInt16.toUInt32.toInt32)), .val (.int t0_20), .unset, .unset, .unset, .unset] [])
      refine Goes.step (fun _ k => XS.iloadN X.here hx rfl (hb hby at_27) rfl k) ?_
      show Goes p e below s _ _ _ T (mkF m 28 #[.val (.int p1), .val (.int (p1.toUInt32.toUInt16.toUInt32.toInt32)), .val (.int t0_20), .unset, .unset, .unset, .unset] [(.int (p1.toUInt32.toUInt16.toUInt32.toInt32))])
      refine Goes.step (fun _ k => XS.bipush X.here hx rfl (hb hby at_28) k) ?_
      show Goes p e below s _ _ _ T (mkF m 30 #[.val (.int p1), .val (.int (p1.toUInt32.toUInt16.toUInt32.toInt32)), .val (.int t0_20), .unset, .unset, .unset, .unset] [(.int (57 : Int32)), (.int (p1.toUInt32.toUInt16.toUInt32.toInt32))])
      refine Goes.ite (Q := PI h0) (fun hc30 => ?_) (fun hc30 => ?_)
      · refine Goes.step (fun _ k => XS.icmpYes X.here hx rfl (pc0 := 30) (pc' := 37) rfl (hb hby at_30) rfl (tlt hc30).2.2.1 (by decide) (by decide) k) ?_
        show Goes p e below s _ _ _ T (mkF m 37 #[.val (.int p1), .val (.int (p1.toUInt32.toUInt16.toUInt32.toInt32)), .val (.int t0_20), .unset, .unset, .unset, .unset] [])
        exact B37 T X eT t0_20
      · refine Goes.step (fun _ k => XS.icmpNo X.here hx rfl (hb hby at_30) rfl (flt hc30).2.2.1 k) ?_
        show Goes p e below s _ _ _ T (mkF m 33 #[.val (.int p1), .val (.int (p1.toUInt32.toUInt16.toUInt32.toInt32)), .val (.int t0_20), .unset, .unset, .unset, .unset] [])
        refine Goes.step (fun _ k => XS.iconst X.here hx rfl (hb hby at_33) k) ?_
        show Goes p e below s _ _ _ T (mkF m 34 #[.val (.int p1), .val (.int (p1.toUInt32.toUInt16.toUInt32.toInt32)), .val (.int t0_20), .unset, .unset, .unset, .unset] [(.int (1 : Int32))])
        refine Goes.step (fun _ k => XS.goto X.here hx rfl (pc0 := 34) (pc' := 38) rfl (hb hby at_34) (by decide) (by decide) k) ?_
        show Goes p e below s _ _ _ T (mkF m 38 #[.val (.int p1), .val (.int (p1.toUInt32.toUInt16.toUInt32.toInt32)), .val (.int t0_20), .unset, .unset, .unset, .unset] [(.int (1 : Int32))])
        exact B38 T X eT t0_20 (1 : Int32)
  have B19 : ∀ (T : State), Stand p l e room_1 s m #[(.int p1)] below meth c T [] 0 0 → T.heap = h0 → ∀ (_ : True), Goes p e below s room_1.cells room_1.slots (PI h0 (f0_19 p1)) T (mkF m 19 #[.val (.int p1), .val (.int (p1.toUInt32.toUInt16.toUInt32.toInt32)), .unset, .unset, .unset, .unset, .unset] []) := by
    intro T X eT _
    refine Goes.step (fun _ k => XS.iconst X.here hx rfl (hb hby at_19) k) ?_
    show Goes p e below s _ _ _ T (mkF m 20 #[.val (.int p1), .val (.int (p1.toUInt32.toUInt16.toUInt32.toInt32)), .unset, .unset, .unset, .unset, .unset] [(.int (0 : Int32))])
    exact B20 T X eT (0 : Int32)
  show Goes p e below s room_1.cells room_1.slots (PI h0 (f0 p1)) s₁ (entryFrame m #[(.int p1)] maxLocals)
  refine Goes.step (fun t k => castTop (ef_0 m p1) k) ?_
  refine Goes.step (fun _ k => XS.iloadN X0.here hx rfl (hb hby at_0) rfl k) ?_
  show Goes p e below s _ _ _ s₁ (mkF m 1 #[.val (.int p1), .unset, .unset, .unset, .unset, .unset, .unset] [(.int p1)])
  refine Goes.step (fun _ k => XS.i2c X0.here hx rfl (hb hby at_1) rfl k) ?_
  show Goes p e below s _ _ _ s₁ (mkF m 2 #[.val (.int p1), .unset, .unset, .unset, .unset, .unset, .unset] [(.int (p1.toUInt32.toUInt16.toUInt32.toInt32))])
  refine Goes.step (fun _ k => XS.istoreN X0.here hx rfl (hb hby at_2) rfl (l' := #[.val (.int p1), .val (.int (p1.toUInt32.toUInt16.toUInt32.toInt32)), .unset, .unset, .unset, .unset, .unset]) rfl k) ?_
  show Goes p e below s _ _ _ s₁ (mkF m 3 #[.val (.int p1), .val (.int (p1.toUInt32.toUInt16.toUInt32.toInt32)), .unset, .unset, .unset, .unset, .unset] [])
  refine Goes.step (fun _ k => XS.iloadN X0.here hx rfl (hb hby at_3) rfl k) ?_
  show Goes p e below s _ _ _ s₁ (mkF m 4 #[.val (.int p1), .val (.int (p1.toUInt32.toUInt16.toUInt32.toInt32)), .unset, .unset, .unset, .unset, .unset] [(.int (p1.toUInt32.toUInt16.toUInt32.toInt32))])
  refine Goes.step (fun _ k => XS.bipush X0.here hx rfl (hb hby at_4) k) ?_
  show Goes p e below s _ _ _ s₁ (mkF m 6 #[.val (.int p1), .val (.int (p1.toUInt32.toUInt16.toUInt32.toInt32)), .unset, .unset, .unset, .unset, .unset] [(.int (33 : Int32)), (.int (p1.toUInt32.toUInt16.toUInt32.toInt32))])
  refine Goes.ite (Q := PI h0) (fun hc6 => ?_) (fun hc6 => ?_)
  · refine Goes.step (fun _ k => XS.icmpYes X0.here hx rfl (pc0 := 6) (pc' := 19) rfl (hb hby at_6) rfl (tlt hc6).1 (by decide) (by decide) k) ?_
    show Goes p e below s _ _ _ s₁ (mkF m 19 #[.val (.int p1), .val (.int (p1.toUInt32.toUInt16.toUInt32.toInt32)), .unset, .unset, .unset, .unset, .unset] [])
    exact B19 s₁ X0 e0 trivial
  · refine Goes.step (fun _ k => XS.icmpNo X0.here hx rfl (hb hby at_6) rfl (flt hc6).1 k) ?_
    show Goes p e below s _ _ _ s₁ (mkF m 9 #[.val (.int p1), .val (.int (p1.toUInt32.toUInt16.toUInt32.toInt32)), .unset, .unset, .unset, .unset, .unset] [])
    refine Goes.step (fun _ k => XS.iloadN X0.here hx rfl (hb hby at_9) rfl k) ?_
    show Goes p e below s _ _ _ s₁ (mkF m 10 #[.val (.int p1), .val (.int (p1.toUInt32.toUInt16.toUInt32.toInt32)), .unset, .unset, .unset, .unset, .unset] [(.int (p1.toUInt32.toUInt16.toUInt32.toInt32))])
    refine Goes.step (fun _ k => XS.bipush X0.here hx rfl (hb hby at_10) k) ?_
    show Goes p e below s _ _ _ s₁ (mkF m 12 #[.val (.int p1), .val (.int (p1.toUInt32.toUInt16.toUInt32.toInt32)), .unset, .unset, .unset, .unset, .unset] [(.int (126 : Int32)), (.int (p1.toUInt32.toUInt16.toUInt32.toInt32))])
    refine Goes.ite (Q := PI h0) (fun hc12 => ?_) (fun hc12 => ?_)
    · refine Goes.step (fun _ k => XS.icmpYes X0.here hx rfl (pc0 := 12) (pc' := 19) rfl (hb hby at_12) rfl (tlt hc12).2.2.1 (by decide) (by decide) k) ?_
      show Goes p e below s _ _ _ s₁ (mkF m 19 #[.val (.int p1), .val (.int (p1.toUInt32.toUInt16.toUInt32.toInt32)), .unset, .unset, .unset, .unset, .unset] [])
      exact B19 s₁ X0 e0 trivial
    · refine Goes.step (fun _ k => XS.icmpNo X0.here hx rfl (hb hby at_12) rfl (flt hc12).2.2.1 k) ?_
      show Goes p e below s _ _ _ s₁ (mkF m 15 #[.val (.int p1), .val (.int (p1.toUInt32.toUInt16.toUInt32.toInt32)), .unset, .unset, .unset, .unset, .unset] [])
      refine Goes.step (fun _ k => XS.iconst X0.here hx rfl (hb hby at_15) k) ?_
      show Goes p e below s _ _ _ s₁ (mkF m 16 #[.val (.int p1), .val (.int (p1.toUInt32.toUInt16.toUInt32.toInt32)), .unset, .unset, .unset, .unset, .unset] [(.int (1 : Int32))])
      refine Goes.step (fun _ k => XS.goto X0.here hx rfl (pc0 := 16) (pc' := 20) rfl (hb hby at_16) (by decide) (by decide) k) ?_
      show Goes p e below s _ _ _ s₁ (mkF m 20 #[.val (.int p1), .val (.int (p1.toUInt32.toUInt16.toUInt32.toInt32)), .unset, .unset, .unset, .unset, .unset] [(.int (1 : Int32))])
      exact B20 s₁ X0 e0 (1 : Int32)
theorem own_nat (c : Int32) (h0 : 0 ≤ c.toInt) : c = Int32.ofNat c.toInt.toNat := by
  have := c.toInt_lt
  apply Int32.toInt_inj.mp
  rw [Int32.toInt_ofNat_of_lt (by omega)]; omega
def own_g_100 (p1 : Int32) (v2_100 : Int32) (v3_100 : Int32) (v4_100 : Int32) (v5_100 : Int32) (t0_100 : Int32) : Int32 := (if ((f1 p1) = t0_100) then (1 : Int32) else (0 : Int32))
def own_g_99 (p1 : Int32) (v2_99 : Int32) (v3_99 : Int32) (v4_99 : Int32) (v5_99 : Int32) : Int32 := (own_g_100 p1 v2_99 v3_99 v4_99 v5_99 (0 : Int32))
def own_g_75 (p1 : Int32) (v2_75 : Int32) (v3_75 : Int32) (v4_75 : Int32) (t0_75 : Int32) : Int32 := (if (v2_75 = (0 : Int32)) then (own_g_99 p1 v2_75 v3_75 v4_75 t0_75) else (if (v3_75 = (0 : Int32)) then (if (v4_75 = (0 : Int32)) then (if (t0_75 = (0 : Int32)) then (own_g_100 p1 v2_75 v3_75 v4_75 t0_75 (1 : Int32)) else (own_g_99 p1 v2_75 v3_75 v4_75 t0_75)) else (own_g_99 p1 v2_75 v3_75 v4_75 t0_75)) else (own_g_99 p1 v2_75 v3_75 v4_75 t0_75)))
def own_g_74 (p1 : Int32) (v2_74 : Int32) (v3_74 : Int32) (v4_74 : Int32) : Int32 := (own_g_75 p1 v2_74 v3_74 v4_74 (0 : Int32))
def own_g_56 (p1 : Int32) (v2_56 : Int32) (v3_56 : Int32) (t0_56 : Int32) : Int32 := (if (p1 < (97 : Int32)) then (own_g_74 p1 v2_56 v3_56 t0_56) else (if ((122 : Int32) < p1) then (own_g_74 p1 v2_56 v3_56 t0_56) else (own_g_75 p1 v2_56 v3_56 t0_56 (1 : Int32))))
def own_g_55 (p1 : Int32) (v2_55 : Int32) (v3_55 : Int32) : Int32 := (own_g_56 p1 v2_55 v3_55 (0 : Int32))
def own_g_38 (p1 : Int32) (v2_38 : Int32) (t0_38 : Int32) : Int32 := (if (p1 < (65 : Int32)) then (own_g_55 p1 v2_38 t0_38) else (if ((90 : Int32) < p1) then (own_g_55 p1 v2_38 t0_38) else (own_g_56 p1 v2_38 t0_38 (1 : Int32))))
def own_g_37 (p1 : Int32) (v2_37 : Int32) : Int32 := (own_g_38 p1 v2_37 (0 : Int32))
def own_g_20 (p1 : Int32) (t0_20 : Int32) : Int32 := (if (p1 < (48 : Int32)) then (own_g_37 p1 t0_20) else (if ((57 : Int32) < p1) then (own_g_37 p1 t0_20) else (own_g_38 p1 t0_20 (1 : Int32))))
def own_g_19 (p1 : Int32) : Int32 := (own_g_20 p1 (0 : Int32))
def own_g (p1 : Int32) : Int32 := (if (p1 < (33 : Int32)) then (own_g_19 p1) else (if ((126 : Int32) < p1) then (own_g_19 p1) else (own_g_20 p1 (1 : Int32))))
theorem own_small : ∀ n : Fin 128, own_g (Int32.ofNat n.1) = 1 := by decide +kernel
theorem own_law (p1 : Int32) : f0 p1 = 1 := by
  have e : f0 p1 = own_g (p1.toUInt32.toUInt16.toUInt32.toInt32) := rfl
  rw [e]
  obtain ⟨-, h0, h1⟩ := c_i2c p1
  generalize p1.toUInt32.toUInt16.toUInt32.toInt32 = c at *
  by_cases hc : c.toInt < 128
  · rw [own_nat c h0]
    exact own_small ⟨c.toInt.toNat, by omega⟩
  · have hi : ∀ k : Int32, k.toInt < 128 → k < c := fun k hk => by rw [Int32.lt_iff_toInt_lt]; omega
    have lo : ∀ k : Int32, k.toInt < 128 → ¬ c < k := fun k hk => by rw [Int32.lt_iff_toInt_lt]; omega
    simp [own_g, own_g_19, own_g_20, own_g_37, own_g_38, own_g_55, own_g_56, own_g_74, own_g_75, own_g_99, own_g_100, f1, f1_12, f1_24, f1_36, f1_52, hi 126 (by decide), hi 57 (by decide), hi 90 (by decide), hi 122 (by decide), hi 47 (by decide), hi 64 (by decide), hi 96 (by decide), lo 33 (by decide), lo 48 (by decide), lo 65 (by decide), lo 97 (by decide), lo 58 (by decide), lo 91 (by decide), lo 123 (by decide)]
set_option maxRecDepth 65536 in
set_option maxHeartbeats 40000000 in
theorem comes_1 {Post : Tables → Env → Array Value → State → Outcome → State → Prop} (hpost : ∀ tb e args s v u, (limb_1_1.after args s (.returned v) u = true ∧ limb_1_2.after args s (.returned v) u = true ∧ True) → FrameEnd s (.returned v) u (Jvm.fieldLocs frame_1_writes args s ++ Jvm.arrayLocs frame_1_arrays args s ++ Jvm.staticLocs frame_1_statics s) 0 0 → Post tb e args s (.returned v) u) :
    ArmFor flags0 classFile x code maxLocals ret World_1 tables_1 room_1 Calls_1 rest_1 Pre_1 Post := by
  intro l hfl _ _ p e ha hc hk s m args below hf hA hF happ hP
  obtain ⟨hcalls, hrest, hpre⟩ := hP
  obtain ⟨-, -, -, hnamed, -, -, -, hat⟩ := (Spec.applies_iff hf).mp happ
  obtain ⟨hg, hn⟩ := and_e (Cond.before_iff.mp (show (Jvm.Cond.and given_1 narrow_1).before args s = true from hpre))
  obtain ⟨hcnt, g0⟩ := and_e hg
  have i0 := g0
  obtain ⟨w0, rfl⟩ : ∃ w0 : Value, args = #[w0] := by
    have hs : args.size = 1 := by simpa [Cond.value, given_1] using hcnt
    obtain ⟨L⟩ := args
    match L, hs with
    | [w0], _ => exact ⟨w0, rfl⟩
  have hw := fun d (hd : d ∈ tables_1) => atoms_spec (ws := Jvm.Cond.code x code maxLocals ret :: tables_1) hat d (List.mem_cons_of_mem _ hd)
  obtain ⟨z0, e0⟩ := is_v i0
  obtain rfl : w0 = (.int z0) := Option.some.inj e0
  obtain ⟨n, o, h1, h2, h3, v, L, rfl, ⟨rfl, rfl, hh⟩, hq⟩ := rm0 l s _ hw tables_1 z0  s.heap  p e ha hc hk s m _ below hf ((Spec.applies_iff_loose hf).mp happ).1 ⟨rfl, State.Warmed39.refl s, rfl⟩ trivial
  have hlaw := own_law z0 
  refine ⟨n, _, h1, h2, h3, hpost _ _ _ _ _ _ ⟨Cond.after_iff.mpr rfl, Cond.after_iff.mpr (eq_i res_at (Term.int_eval (1)) (by rw [hlaw])), trivial⟩ ⟨hq.1, hq.2.1, (hq.2.2.sift fun y hy => by cases hy).mono (by decide) (by decide)⟩⟩
theorem main_1_1 : Claimed_1_1 := comes_1 fun _ _ _ _ _ _ h hF => ⟨h.1, hF⟩
theorem main_1_2 : Claimed_1_2 := comes_1 fun _ _ _ _ _ _ h hF => ⟨h.2.1, hF⟩
end Jvm.Pilot.@@N@@
namespace Jvm.Pilot.@@N@@
open Jvm Jvm.ClassFile Sem Op Lib Jvm.Free Jvm.Stand Jvm.Pilot.@@N@@.Jvm.D
/-! MADE BY PROGRAM (witnessworld.py) out of the Statement's table words and the real class files: 7 classes; the members and pool entries that the words name. The judged class is class 1, her method 1. -/
namespace start1
open Jvm.ClassFile
def u (s : String) : CpInfo := .utf8 (stringToUtf16 s)
/-- a pool by its gaps: so many unusable entries, then the entry; so many at the end -/
def gap : Nat → List CpInfo → List CpInfo
  | 0, r => r
  | n + 1, r => .unusable :: gap n r
def poolList (es : List (Nat × CpInfo)) (last : Nat) : List CpInfo := es.foldr (fun e r => gap e.1 (e.2 :: r)) (gap last [])
def pool (es : List (Nat × CpInfo)) (last : Nat) : Array CpInfo := ⟨poolList es last⟩
def fileOf (pool : Array CpInfo) (this : Nat) (attrs : Array Attribute := #[]) (ms : Array MethodInfo := #[]) (fl : Nat := 33) (sup : Nat := 0) (ifs : Array Nat := #[]) (fds : Array FieldInfo := #[]) : ClassFile where
  minorVersion := 0
  majorVersion := 65
  constantPool := pool
  accessFlags := fl
  thisClass := this
  superClass := sup
  interfaces := ifs
  fields := fds
  methods := ms
  attributes := attrs
def plain (name : String) (sup : Option ClassId) : Class where
  name := name
  kind := .ordinary
  loader := none
  accessFlags := 33
  super := sup
  interfaces := #[]
  cf := none
  fields := #[]
  methods := #[]
  instanceTypes := #[]
  staticTypes := #[]
  resolved := #[]
  callSites := []
  init := .initialized
  statics := none
  mirror := none

def pool0 : Array CpInfo := pool [(5, u "<init>"), (0, u "()V"), (1, .class_ 10), (1, u "java/lang/Object")] 113

def k0m0 : Method := { name := "<init>", desc := "()V", sig := { parameters := [], returnType := none }, accessFlags := 1, code := none }
/-- java/lang/Object -/
def k0 : Class := { plain "java/lang/Object" none with
  accessFlags := 33
  interfaces := #[]
  cf := some (fileOf pool0 8 #[] #[{ accessFlags := 1, nameIndex := 5, descriptorIndex := 6, attributes := #[] }] 33 0 #[] #[])
  fields := #[]
  methods := #[k0m0]
  instanceTypes := #[]
  staticTypes := #[]
  resolved := Array.replicate 124 none
  statics := none }

def pool1 : Array CpInfo := pool [(2, .class_ 4), (1, u "java/lang/Object"), (0, u "<init>"), (0, u "()V"), (0, .methodref 8 9), (0, .class_ 10), (0, .nameAndType 11 12), (0, u "com/example/recital/recital/io/MarkdownLinks"), (0, u "isEscapable"), (0, u "(C)Z"), (0, .class_ 14), (0, u "com/example/recital/recital/io/MarkdownLinksIsEscapablePinLaw"), (2, u "law"), (0, u "(I)Z")] 3

def k1m0 : Method := { name := "<init>", desc := "()V", sig := { parameters := [], returnType := none }, accessFlags := 2, code := none }
def k1c1 : Code := { maxStack := 2, maxLocals := 7, code := code, exceptionTable := #[], attributes := #[] }
def k1m1 : Method := { name := "law", desc := "(I)Z", sig := { parameters := [.int], returnType := some .boolean }, accessFlags := 9, code := some k1c1 }
/-- com/example/recital/recital/io/MarkdownLinksIsEscapablePinLaw -/
def k1 : Class := { plain "com/example/recital/recital/io/MarkdownLinksIsEscapablePinLaw" (some 0) with
  accessFlags := 49
  interfaces := #[]
  cf := some (fileOf pool1 13 #[] #[{ accessFlags := 2, nameIndex := 5, descriptorIndex := 6, attributes := #[] }, { accessFlags := 9, nameIndex := 17, descriptorIndex := 18, attributes := #[] }] 49 2 #[] #[])
  fields := #[]
  methods := #[k1m0, k1m1]
  instanceTypes := #[]
  staticTypes := #[]
  resolved := Array.replicate 22 none
  statics := none }

def pool2 : Array CpInfo := pool [(2, .class_ 4), (1, u "java/lang/Object"), (0, u "<init>"), (0, u "()V"), (1, .class_ 10), (1, u "com/example/recital/recital/io/MarkdownLinks"), (16, u "isEscapable"), (0, u "(C)Z"), (35, u "MOST_LABEL_CHARACTERS"), (0, u "I"), (2, u "MOST_NESTED_PARENTHESES")] 12

def k2m0 : Method := { name := "<init>", desc := "()V", sig := { parameters := [], returnType := none }, accessFlags := 2, code := none }
def k2c1 : Code := { maxStack := 2, maxLocals := 1, code := prog_11_method_2_code, exceptionTable := #[], attributes := #[] }
def k2m1 : Method := { name := "isEscapable", desc := "(C)Z", sig := { parameters := [.char], returnType := some .boolean }, accessFlags := 8, code := some k2c1 }
/-- com/example/recital/recital/io/MarkdownLinks -/
def k2 : Class := { plain "com/example/recital/recital/io/MarkdownLinks" (some 0) with
  accessFlags := 48
  interfaces := #[]
  cf := some (fileOf pool2 8 #[] #[{ accessFlags := 2, nameIndex := 5, descriptorIndex := 6, attributes := #[] }, { accessFlags := 8, nameIndex := 27, descriptorIndex := 28, attributes := #[] }] 48 2 #[] #[{ accessFlags := 24, nameIndex := 64, descriptorIndex := 65, attributes := #[] }, { accessFlags := 26, nameIndex := 68, descriptorIndex := 65, attributes := #[] }])
  fields := #[{ name := "MOST_LABEL_CHARACTERS", type := .int, accessFlags := 24, slot := 0, constantValue := 0 }, { name := "MOST_NESTED_PARENTHESES", type := .int, accessFlags := 26, slot := 1, constantValue := 0 }]
  methods := #[k2m0, k2m1]
  instanceTypes := #[]
  staticTypes := #[.int, .int]
  resolved := Array.replicate 81 none
  statics := none }

def pool3 : Array CpInfo := pool [(1, u "java/lang/Cloneable"), (0, .class_ 1), (0, u "java/lang/Object"), (0, .class_ 3)] 3

/-- java/lang/Cloneable -/
def k3 : Class := { plain "java/lang/Cloneable" (some 0) with
  accessFlags := 1537
  interfaces := #[]
  cf := some (fileOf pool3 2 #[] #[] 1537 4 #[] #[])
  fields := #[]
  methods := #[]
  instanceTypes := #[]
  staticTypes := #[]
  resolved := Array.replicate 8 none
  statics := none }

def pool4 : Array CpInfo := pool [(1, u "java/io/Serializable"), (0, .class_ 1), (0, u "java/lang/Object"), (0, .class_ 3)] 3

/-- java/io/Serializable -/
def k4 : Class := { plain "java/io/Serializable" (some 0) with
  accessFlags := 1537
  interfaces := #[]
  cf := some (fileOf pool4 2 #[] #[] 1537 4 #[] #[])
  fields := #[]
  methods := #[]
  instanceTypes := #[]
  staticTypes := #[]
  resolved := Array.replicate 8 none
  statics := none }

/-- the primitive byte -/
def k5 : Class := { plain "byte" none with kind := .primitive 'B', accessFlags := 0x411 }
/-- [B -/
def k6 : Class := { plain "[B" (some 0) with kind := .array 5 .byte, interfaces := #[3, 4], accessFlags := 1041 }

def heap : Heap := #[]
def classes : Array Class := #[k0, k1, k2, k3, k4, k5, k6]
def interned : List (Array UInt16 × Addr) := []
def slotsUsed : Nat := 0
def theMethod : MethodId := ⟨1, 1⟩
def args0 : Array Value := #[.int 65]
def aboutOver (below : List Frame) : State where
  vm := { classes := classes, interned := interned.toArray }
  heap := heap
  slotsUsed := slotsUsed
  threads := #[{ frames := .invoking theMethod args0 :: below }]
def below0 : List Frame := [.native { method := ⟨0, 0⟩, args := #[] }]
def about1 : State := aboutOver below0
def p0 : Program := .bare "" "" ""
def e0 : Env := launch0.env 0 0 0
theorem w_frames : about1.frames = Frame.invoking theMethod args0 :: below0 := rfl
set_option maxRecDepth 65536 in
theorem w_args : argsFit about1.vm theMethod args0 = true := by decide +kernel
set_option maxRecDepth 65536 in
theorem w_heap : heapFits about1 = true := by decide +kernel
set_option maxRecDepth 65536 in
theorem w_runnable : about1.curStatus? = some .runnable := by decide +kernel
set_option maxRecDepth 65536 in
theorem w_alone : about1.alone = true := by decide +kernel
set_option maxRecDepth 65536 in
theorem w_named : about1.methodNamed? x = some theMethod := by decide +kernel
set_option maxRecDepth 65536 in
theorem w_hears : about1.hears theMethod below0 = true := by decide +kernel
set_option maxRecDepth 65536 in
theorem w_ripe : about1.ripe theMethod args0 below0 = true := by decide +kernel
theorem w_running : about1.status = .running := rfl
set_option maxRecDepth 65536 in
theorem w_room : about1.hasRoom e0.platform room_1 = true :=
  launch0.hasRoom_least _ room_1 (by decide +kernel) (by decide +kernel) (by decide +kernel) (by decide +kernel) (by decide +kernel) (by decide +kernel)
theorem allAtoms_all (ts : List Jvm.Cond) (a : Array Jvm.Value) (st : Jvm.State) : (allAtoms ts).before a st = ts.all (fun c => c.before a st) := by
  induction ts with
  | nil => rfl
  | cons c t ih =>
    show (Jvm.Cond.and c (allAtoms t)).before a st = _
    rw [Jvm.Cond.before_and, ih, List.all_cons]
def words1 : List Jvm.Cond := Jvm.Cond.code x code maxLocals ret :: tables_1
/-- a 'code' word, met by the world's own term for the bytes: nothing is compared byte by byte -/
theorem code_word {y : MethodName} {bytes : ByteArray} {mx : Nat} {rt : Option FieldType} {a : Array Value} {s : State} {m : MethodId} {meth : Method} {c : Code} (h1 : s.methodNamed? y = some m) (h2 : s.vm.method? m = some meth) (h3 : meth.code = some c) (h4 : c.code = bytes)
    (h5 : (c.maxLocals == mx && c.exceptionTable.isEmpty && decide (c.maxStack ≤ mostOperands) && decide (meth.sig.returnType = rt) && !meth.locks && decide (parseMethodDescriptor y.desc = some meth.sig)) = true) : (Jvm.Cond.code y bytes mx rt).before a s = true := by
  simp only [Bool.and_eq_true, beq_iff_eq, Bool.not_eq_true', decide_eq_true_eq] at h5
  obtain ⟨⟨⟨⟨⟨g1, g2⟩, g3⟩, g4⟩, g5⟩, g6⟩ := h5
  simp [Cond.before, Cond.holds, Cond.value, h1, h2, h3, h4, g1, g2, g3, g4, g5, g6]
def isCode : Jvm.Cond → Bool
  | .code _ _ _ _ => true
  | _ => false
theorem all_split {L : List Jvm.Cond} {P : Jvm.Cond → Bool} (h1 : L.all (fun c => isCode c || P c) = true) (h2 : ∀ c ∈ L.filter isCode, P c = true) : L.all P = true := by
  refine List.all_eq_true.mpr fun c hc => ?_
  have h := List.all_eq_true.mp h1 c hc
  rcases Bool.eq_false_or_eq_true (isCode c) with hi | hi
  · exact h2 c (List.mem_filter.mpr ⟨hc, hi⟩)
  · simpa [hi] using h
set_option maxRecDepth 65536 in
theorem w_c0 : (Jvm.Cond.code x code maxLocals ret).before args0 about1 = true := code_word (m := ⟨1, 1⟩) (meth := k1m1) (c := k1c1) (by decide +kernel) rfl rfl rfl (by decide +kernel)
set_option maxRecDepth 65536 in
theorem w_c1 : (Jvm.Cond.code ({ cls := "com/example/recital/recital/io/MarkdownLinks", name := "isEscapable", desc := "(C)Z" } : Jvm.MethodName) prog_11_method_2_code (1 : Nat) (Option.some Jvm.ClassFile.FieldType.boolean)).before args0 about1 = true := code_word (m := ⟨2, 1⟩) (meth := k2m1) (c := k2c1) (by decide +kernel) rfl rfl rfl (by decide +kernel)
def codes1 : List Jvm.Cond := [Jvm.Cond.code x code maxLocals ret, Jvm.Cond.code ({ cls := "com/example/recital/recital/io/MarkdownLinks", name := "isEscapable", desc := "(C)Z" } : Jvm.MethodName) prog_11_method_2_code (1 : Nat) (Option.some Jvm.ClassFile.FieldType.boolean)]
set_option maxRecDepth 65536 in
theorem codes_eq : words1.filter isCode = codes1 := rfl
theorem w_codes : ∀ c ∈ words1.filter isCode, c.before args0 about1 = true := by
  rw [codes_eq]
  intro c hc
  simp only [codes1, List.mem_cons, List.not_mem_nil, or_false] at hc
  rcases hc with rfl | rfl
  · exact w_c0
  · exact w_c1
set_option maxRecDepth 65536 in
theorem w_t1 : words1.all (fun c => isCode c || c.before args0 about1) = true := by decide +kernel
theorem w_tables : (allAtoms (Jvm.Cond.code x code maxLocals ret :: tables_1)).before args0 about1 = true := by
  rw [allAtoms_all]
  show words1.all (fun c => c.before args0 about1) = true
  refine all_split ?_ w_codes
  rw [w_t1]
set_option maxRecDepth 65536 in
theorem w_case : (Jvm.Cond.and given_1 narrow_1).before args0 about1 = true := by decide +kernel
theorem w_applies : (headSpec (Jvm.Cond.code x code maxLocals ret :: tables_1) room_1).applies x e0.platform about1 = true :=
  (Spec.applies_iff w_frames).mpr ⟨w_running, w_runnable, w_alone, w_named, w_hears, w_ripe, w_room, w_tables⟩
theorem atStart : AtStart classFile x code maxLocals ret World_1 tables_1 room_1 Calls_1 rest_1 Pre_1 launch0 p0 e0 about1 theMethod args0 below0 :=
  ⟨lists_1, trivial, launch0.admits_env _ _ _, launch0.least_env, fairChoices_fair.cas, fairChoices_fair.clock, w_frames, w_args, w_heap, w_applies, trivial, trivial, w_case⟩
end start1
theorem witness_1 : WitnessClaimed_1 := ⟨start1.p0, start1.e0, start1.about1, start1.theMethod, start1.args0, start1.below0, start1.atStart⟩
end Jvm.Pilot.@@N@@
