import JvmDerived
import JvmDerived.Pilot.@@N@@Statement
import JvmDerived.Pilot.@@N@@Code
set_option linter.unusedVariables false
set_option linter.unusedSimpArgs false
namespace Jvm.RoadKit
open Sem ClassFile Op Lib Jvm.Stand Jvm.Free Jvm.LawKit
section Own
variable {p : Program} {l : Launch} {e : Env} {R : Room} {s : State} {m : MethodId} {args : Array Value} {below : List Frame} {meth : Method} {c : Code} {T : State} {locs : List Loc} {cells slots : Nat} {Z : State} {a0 : Array Value} {h : Heap}
/-- what is left of a body: from the frame g on it ends, and Q holds of what it returns, the heap and the places written -/
def Goes (p : Program) (e : Env) (below : List Frame) (s : State) (K N : Nat) (Q : Option Value → Heap → List Loc → Prop) (T : State) (g : JFrame) : Prop :=
  ∃ s₂ o, Steps p.tables e below (T.setTop g) s₂ ∧ s₂.status = .running ∧ Ended s₂ below o ∧ ∃ v L, o = .returned v ∧ Q v s₂.heap L ∧ FrameEnd s o s₂ L K N
theorem Goes.step {K N : Nat} {Q : Option Value → Heap → List Loc → Prop} {T' : State} {g g' : JFrame} (k : ∀ t, Steps p.tables e below (T'.setTop g') t → Steps p.tables e below (T.setTop g) t) (h : Goes p e below s K N Q T' g') : Goes p e below s K N Q T g := by
  obtain ⟨s₂, o, h1, h2⟩ := h
  exact ⟨s₂, o, k _ h1, h2⟩
theorem Goes.jump {K N : Nat} {Q : Option Value → Heap → List Loc → Prop} {T' : State} {g g' : JFrame} (k : Steps p.tables e below (T.setTop g) (T'.setTop g')) (h : Goes p e below s K N Q T' g') : Goes p e below s K N Q T g :=
  Goes.step (fun _ q => k.trans q) h
theorem Goes.ite {K N : Nat} {α : Type} {Q : α → Option Value → Heap → List Loc → Prop} {g : JFrame} {a b : α} {d : Prop} [Decidable d] (h1 : d → Goes p e below s K N (Q a) T g) (h2 : ¬ d → Goes p e below s K N (Q b) T g) : Goes p e below s K N (Q (if d then a else b)) T g := by
  split
  · next q => exact h1 q
  · next q => exact h2 q
theorem Goes.imp {K N : Nat} {Q Q' : Option Value → Heap → List Loc → Prop} {g : JFrame} (q : ∀ v h L, Q v h L → Q' v h L) (h : Goes p e below s K N Q T g) : Goes p e below s K N Q' T g := by
  obtain ⟨s₂, o, h1, h2, h3, v, L, h4, h5, h6⟩ := h
  exact ⟨s₂, o, h1, h2, h3, v, L, h4, q _ _ _ h5, h6⟩
theorem retI (X : Stand p l e R s m args below meth c T locs cells slots) (hx : p.tables.exec = Jvm.exec) {pc : Nat} {Ls : Array Slot} {z : Int32} {rest : List Value} (hret : meth.sig.returnType = some .int) (hd : decode c.code pc = .ok (.ireturn, 1)) {fs : List Frame}
    (hl : ∀ (f : JFrame) (acts : List Action), f.method = m → f.locked = none → f.entered = [] → (doReturn e (T.setTop f) acts (some (.int z))).1 = T.setFrames fs) : Steps p.tables e below (T.setTop (mkF m pc Ls (.int z :: rest))) (T.setFrames fs) := by
  have hm' : T.vm.method? m = some meth := X.method'
  have hn : narrow .int (.int z) = .int z := rfl
  show Steps p.tables e below (T.setTop { method := m, pc := pc, locals := Ls, stack := _ :: rest, locked := none }) _
  jvm_step X.here [X.here.top, hx, hd, hm', hret, hn]
  first | (intro acts; rw [hl _ acts rfl rfl rfl]) | rw [hl _ _ rfl rfl rfl]
  exact Steps.refl _
theorem retJ (X : Stand p l e R s m args below meth c T locs cells slots) (hx : p.tables.exec = Jvm.exec) {pc : Nat} {Ls : Array Slot} {z : Int64} {rest : List Value} (hret : meth.sig.returnType = some .long) (hd : decode c.code pc = .ok (.lreturn, 1)) {fs : List Frame}
    (hl : ∀ (f : JFrame) (acts : List Action), f.method = m → f.locked = none → f.entered = [] → (doReturn e (T.setTop f) acts (some (.long z))).1 = T.setFrames fs) : Steps p.tables e below (T.setTop (mkF m pc Ls (.long z :: rest))) (T.setFrames fs) :=
  retOut X hx hret rfl (Or.inr (Or.inl ⟨rfl, rfl, z, rfl⟩)) hd hl
theorem Goes.outI (X : Stand p l e R s m args below meth c T locs cells slots) (hx : p.tables.exec = Jvm.exec) (hlk : meth.locks = false) (hret : meth.sig.returnType = some .int) {pc : Nat} (hd : decode c.code pc = .ok (.ireturn, 1)) {Ls : Array Slot} {z : Int32} {rest : List Value} {K N : Nat} {Q : Option Value → Heap → List Loc → Prop}
    (hq : Q (some (.int z)) T.heap locs) (hk : cells ≤ K) (hn : slots ≤ N) : Goes p e below s K N Q T (mkF m pc Ls (.int z :: rest)) := by
  obtain ⟨fs, hr, hrun, hended, hW, hsame⟩ := X.leave (v := some (.int z)) (fun h => by rw [hret] at h; cases h) hlk
  exact ⟨_, _, retI X hx hret hd hr, hrun, hended, _, _, rfl, hq, ⟨_, rfl⟩, hW, hsame.mono hk hn⟩
theorem Goes.outJ (X : Stand p l e R s m args below meth c T locs cells slots) (hx : p.tables.exec = Jvm.exec) (hlk : meth.locks = false) (hret : meth.sig.returnType = some .long) {pc : Nat} (hd : decode c.code pc = .ok (.lreturn, 1)) {Ls : Array Slot} {z : Int64} {rest : List Value} {K N : Nat} {Q : Option Value → Heap → List Loc → Prop}
    (hq : Q (some (.long z)) T.heap locs) (hk : cells ≤ K) (hn : slots ≤ N) : Goes p e below s K N Q T (mkF m pc Ls (.long z :: rest)) := by
  obtain ⟨fs, hr, hrun, hended, hW, hsame⟩ := X.leave (v := some (.long z)) (fun h => by rw [hret] at h; cases h) hlk
  exact ⟨_, _, retJ X hx hret hd hr, hrun, hended, _, _, rfl, hq, ⟨_, rfl⟩, hW, hsame.mono hk hn⟩
theorem Goes.outN (X : Stand p l e R s m args below meth c T locs cells slots) (hx : p.tables.exec = Jvm.exec) (hlk : meth.locks = false) {t : FieldType} (hret : meth.sig.returnType = some t) (ht : t = .boolean ∨ t = .byte ∨ t = .char ∨ t = .short) {pc : Nat} (hd : decode c.code pc = .ok (.ireturn, 1)) {Ls : Array Slot} {z : Int32} {rest : List Value} {K N : Nat} {Q : Option Value → Heap → List Loc → Prop}
    (hq : Q (some (.int (nar t z))) T.heap locs) (hk : cells ≤ K) (hn : slots ≤ N) : Goes p e below s K N Q T (mkF m pc Ls (.int z :: rest)) := by
  obtain ⟨fs, hr, hrun, hended, hW, hsame⟩ := X.leave (v := some (.int (nar t z))) (fun h => by rw [hret] at h; cases h) hlk
  exact ⟨_, _, retN X hx hret ht hd hr, hrun, hended, _, _, rfl, hq, ⟨_, rfl⟩, hW, hsame.mono hk hn⟩
theorem Goes.outV (X : Stand p l e R s m args below meth c T locs cells slots) (hx : p.tables.exec = Jvm.exec) (hlk : meth.locks = false) (hret : meth.sig.returnType = none) {pc : Nat} (hd : decode c.code pc = .ok (.return_, 1)) {Ls : Array Slot} {K N : Nat} {Q : Option Value → Heap → List Loc → Prop}
    (hq : Q none T.heap locs) (hk : cells ≤ K) (hn : slots ≤ N) : Goes p e below s K N Q T (mkF m pc Ls []) := by
  obtain ⟨fs, hr, hrun, hended, hW, hsame⟩ := X.leave (v := none) (fun _ => rfl) hlk
  exact ⟨_, _, X.returnOut hx hret hd hr, hrun, hended, _, _, rfl, hq, ⟨_, rfl⟩, hW, hsame.mono hk hn⟩
theorem Goes.outR (X : Stand p l e R s m args below meth c T locs cells slots) (hx : p.tables.exec = Jvm.exec) (hlk : meth.locks = false) {t : FieldType} (hret : meth.sig.returnType = some t) (ht : t.isReference = true) {w : Value} (hw : w.isRef = true) {pc : Nat} (hd : decode c.code pc = .ok (.areturn, 1)) {Ls : Array Slot} {K N : Nat} {Q : Option Value → Heap → List Loc → Prop}
    (hq : Q (some w) T.heap locs) (hk : cells ≤ K) (hn : slots ≤ N) : Goes p e below s K N Q T (mkF m pc Ls [w]) := by
  obtain ⟨fs, hr, hrun, hended, hW, hsame⟩ := X.leave (v := some w) (fun h => by rw [hret] at h; cases h) hlk
  exact ⟨_, _, X.areturnOut hx hw hret ht hd hr, hrun, hended, _, _, rfl, hq, ⟨_, rfl⟩, hW, hsame.mono hk hn⟩
/-- a body that returns v and leaves the heap as it was -/
def PV (h0 : Heap) (r : Value) (v : Option Value) (h : Heap) (L : List Loc) : Prop := v = some r ∧ L = [] ∧ h = h0
def PI (h0 : Heap) (r : Int32) (v : Option Value) (h : Heap) (L : List Loc) : Prop := PV h0 (.int r) v h L
def PJ (h0 : Heap) (r : Int64) (v : Option Value) (h : Heap) (L : List Loc) : Prop := PV h0 (.long r) v h L
def PA (h0 : Heap) (r : Addr) (v : Option Value) (h : Heap) (L : List Loc) : Prop := PV h0 (.ref r) v h L
/-- a reference that may be null -/
def ov : Option Addr → Value
  | none => .null
  | some b => .ref b
def PO (h0 : Heap) (r : Option Addr) (v : Option Value) (h : Heap) (L : List Loc) : Prop := PV h0 (ov r) v h L
theorem ov_cat (o : Option Addr) : (ov o).category = 1 := by cases o <;> rfl
theorem ov_inj {a b : Option Addr} : (ov a = ov b) = (a = b) := by cases a <;> cases b <;> simp [ov]
theorem ov_ref (o : Option Addr) : (ov o).isRef = true := by cases o <;> rfl
/-- a virtual call of a body that leaves the heap as it was -/
theorem callPureV (X : Stand p l e R s m args below meth c T locs cells slots) (hx : p.tables.exec = Jvm.exec) (hZ : Z.Warmed39 s.vm) {own C : String} {index : Nat} {y z : MethodName} {bytes : ByteArray} {maxL : Nat} {ret : Option FieldType} (hown : s.vm.findClass own = some m.cls)
    (w1 : (Cond.methodLink own index y).before a0 Z = true) (w2 : (Cond.declares y).before a0 Z = true) (w3 : (Cond.selects C y z).before a0 Z = true) (w4 : (Cond.instanceMethod z).before a0 Z = true) (w5 : (Cond.code z bytes maxL ret).before a0 Z = true) (w6 : (Cond.initialized z.cls).before a0 Z = true) (hnf : NotFace s y) (hy : y.cls ≠ "java/lang/invoke/MethodHandle" ∧ y.cls ≠ "java/lang/invoke/VarHandle")
    {F W0 W : Nat} {b : Addr} {argsL rest : List Value} {r : Value} {Q : Option Value → Heap → List Loc → Prop} (hQ : ∀ v h' L, Q v h' L → PV h r v h' L)
    (hM : MetFree l z (head1 [Cond.code z bytes maxL ret] ({ frames := F, cells := 0, slots := 0, locals := W0 } : Room)) (fun a U => a = (.ref b :: argsL).toArray ∧ Z.Warmed39 U.vm ∧ U.heap = h) (fun _ _ _ _ _ => True) (fun _ U o U' => ∃ v L, o = .returned v ∧ Q v U'.heap L ∧ FrameEnd U o U' L ({ frames := F, cells := 0, slots := 0, locals := W0 } : Room).cells ({ frames := F, cells := 0, slots := 0, locals := W0 } : Room).slots))
    (hf : F + 1 ≤ R.frames) (hl : W + (maxL + 11) + W0 ≤ R.locals) (hc : cells ≤ R.cells) (hs : slots ≤ R.slots) (eT : T.heap = h) (E : Exa Z h b C) {g : JFrame} (hg : g.method = m) (hsize : g.locals.size = c.maxLocals) (hlen : ∀ sig, parseMethodDescriptor y.desc = some sig → argsL.length = sig.parameters.length)
    (hstack : g.stack = argsL.reverse ++ .ref b :: rest) (hW : 2 * g.monitorRoom + (rest.map fun v => v.category).sum ≤ W) (hd : decode c.code g.pc = .ok (.invokevirtual index, 3)) :
    ∃ T', Stand p l e R s m args below meth c T' locs cells slots ∧ T'.heap = h ∧ ∀ target, Steps p.tables e below (T'.setTop { g with pc := g.pc + 3, stack := r :: rest }) target → Steps p.tables e below (T.setTop g) target := by
  obtain ⟨cq, kq, qa, qb, qc⟩ := isOf hZ eT E
  obtain ⟨_, _, ⟨T18, L18, k18, n18⟩, -, X18, ⟨Lc, hq, l18, y18, z18⟩, st⟩ := X.virtualBack hx hown (mvT hZ w1) (mvT hZ w2) hnf (mvT hZ w3) (mvT hZ w4) hy (backOf (W := W) hM hZ w5 w6 hf hl) qa qc hg hsize (Steps.refl _) hlen hstack hW hd (fun _ _ => ⟨rfl, eT, hc, hs⟩)
  dsimp only [Pt.U, Pt.locs, Pt.cells, Pt.slots] at X18 l18 y18 z18 st hq
  subst l18 y18 z18
  obtain ⟨rfl, rfl, e18⟩ := hQ _ _ _ hq
  rw [List.append_nil] at X18
  exact ⟨T18, X18, e18, fun _ k => st.trans k⟩
/-- a static call of a body that leaves the heap as it was -/
theorem callPure (X : Stand p l e R s m args below meth c T locs cells slots) (hx : p.tables.exec = Jvm.exec) (hZ : Z.Warmed39 s.vm) {own : String} {index : Nat} {y : MethodName} {bytes : ByteArray} {maxL : Nat} {ret : Option FieldType} (hown : s.vm.findClass own = some m.cls)
    (w1 : (Cond.methodLink own index y).before a0 Z = true) (w2 : (Cond.static y).before a0 Z = true) (w3 : (Cond.initialized y.cls).before a0 Z = true) (w4 : (Cond.code y bytes maxL ret).before a0 Z = true) (hy : y.cls ≠ "java/lang/invoke/MethodHandle" ∧ y.cls ≠ "java/lang/invoke/VarHandle")
    {F W0 W : Nat} {argsL rest : List Value} {r : Value} {Q : Option Value → Heap → List Loc → Prop} (hQ : ∀ v h' L, Q v h' L → PV h r v h' L)
    (hM : MetFree l y (head1 [Cond.code y bytes maxL ret] ({ frames := F, cells := 0, slots := 0, locals := W0 } : Room)) (fun a U => a = argsL.toArray ∧ Z.Warmed39 U.vm ∧ U.heap = h) (fun _ _ _ _ _ => True) (fun _ U o U' => ∃ v L, o = .returned v ∧ Q v U'.heap L ∧ FrameEnd U o U' L ({ frames := F, cells := 0, slots := 0, locals := W0 } : Room).cells ({ frames := F, cells := 0, slots := 0, locals := W0 } : Room).slots))
    (hf : F + 1 ≤ R.frames) (hl : W + (maxL + 11) + W0 ≤ R.locals) (hc : cells ≤ R.cells) (hs : slots ≤ R.slots) (eT : T.heap = h) {g : JFrame} (hg : g.method = m) (hsize : g.locals.size = c.maxLocals) (hlen : ∀ sig, parseMethodDescriptor y.desc = some sig → argsL.length = sig.parameters.length)
    (hstack : g.stack = argsL.reverse ++ rest) (hW : 2 * g.monitorRoom + (rest.map fun v => v.category).sum ≤ W) (hd : decode c.code g.pc = .ok (.invokestatic index, 3)) :
    ∃ T', Stand p l e R s m args below meth c T' locs cells slots ∧ T'.heap = h ∧ ∀ target, Steps p.tables e below (T'.setTop { g with pc := g.pc + 3, stack := r :: rest }) target → Steps p.tables e below (T.setTop g) target := by
  obtain ⟨_, _, ⟨T18, L18, k18, n18⟩, -, X18, ⟨Lc, hq, l18, y18, z18⟩, st⟩ := Jvm.LawKit.callS X hx hown (mvT hZ w1) (mvT hZ w2) (mvT hZ w3) (mvT hZ w4) hy (backOf (W := W) hM hZ w4 w3 hf hl) hg hsize hlen hstack hW hd (fun _ _ => ⟨rfl, eT, hc, hs⟩)
  dsimp only [Pt.U, Pt.locs, Pt.cells, Pt.slots] at X18 l18 y18 z18 st hq
  subst l18 y18 z18
  obtain ⟨rfl, rfl, e18⟩ := hQ _ _ _ hq
  rw [List.append_nil] at X18
  exact ⟨T18, X18, e18, st⟩
end Own
end Jvm.RoadKit
namespace Jvm.Pilot.@@N@@
open Jvm Jvm.ClassFile Sem Op Lib Jvm.Free Jvm.Stand Jvm.LawKit Jvm.RoadKit Bundle Jvm.Pilot.@@N@@.Jvm.D
theorem d1_0 : decode prog_108_method_8_code 0 = .ok (.iload_n 0, 1) := by decide +kernel
theorem d1_1 : decode prog_108_method_8_code 1 = .ok (.iconst (-1), 1) := by decide +kernel
theorem d1_2 : decode prog_108_method_8_code 2 = .ok (.if_icmp .eq 17, 3) := by decide +kernel
theorem d1_5 : decode prog_108_method_8_code 5 = .ok (.iload_n 1, 1) := by decide +kernel
theorem d1_6 : decode prog_108_method_8_code 6 = .ok (.iconst (-1), 1) := by decide +kernel
theorem d1_7 : decode prog_108_method_8_code 7 = .ok (.if_icmp .eq 12, 3) := by decide +kernel
theorem d1_10 : decode prog_108_method_8_code 10 = .ok (.iload_n 0, 1) := by decide +kernel
theorem d1_11 : decode prog_108_method_8_code 11 = .ok (.iload_n 1, 1) := by decide +kernel
theorem d1_12 : decode prog_108_method_8_code 12 = .ok (.if_icmp .le 7, 3) := by decide +kernel
theorem d1_15 : decode prog_108_method_8_code 15 = .ok (.iconst 1, 1) := by decide +kernel
theorem d1_16 : decode prog_108_method_8_code 16 = .ok (.goto 4, 3) := by decide +kernel
theorem d1_19 : decode prog_108_method_8_code 19 = .ok (.iconst 0, 1) := by decide +kernel
theorem d1_20 : decode prog_108_method_8_code 20 = .ok (.ireturn, 1) := by decide +kernel
theorem pn_1 : plainName "com/example/decompose/decompose/model/verify/NetworkOrder" = true := by first | (simp [plainName, overriddenIn]; done) | decide +kernel
theorem ef_1 (m : MethodId) (p1 : Int32) (p2 : Int32) : entryFrame m #[(.int p1), (.int p2)] 2 = mkF m 0 #[.val (.int p1), .val (.int p2)] [] := by first | (simp [entryFrame, mkF, argsToLocals, Value.category]; done) | rfl
def f1_19 (p1 : Int32) (p2 : Int32) : Int32 := (0 : Int32)
def f1 (p1 : Int32) (p2 : Int32) : Int32 := (if (p1 = (-1 : Int32)) then (f1_19 p1 p2) else (if (p2 = (-1 : Int32)) then (f1_19 p1 p2) else (if (p2 < p1) then (1 : Int32) else (f1_19 p1 p2))))
set_option maxRecDepth 65536 in
set_option maxHeartbeats 40000000 in
theorem rm1 (l : Launch) (Z : State) (a0 : Array Value) (hw : ∀ d ∈ tables_1, d.before a0 Z = true) (ws : List Jvm.Cond) (p1 : Int32) (p2 : Int32) (h0 : Heap)  :
    MetFree l (⟨"com/example/decompose/decompose/model/verify/NetworkOrder", "breaks", "(II)Z"⟩ : MethodName) (head1 (Jvm.Cond.code (⟨"com/example/decompose/decompose/model/verify/NetworkOrder", "breaks", "(II)Z"⟩ : MethodName) prog_108_method_8_code 2 (some .boolean) :: ws) ({ frames := 0, cells := 0, slots := 0, locals := 0 } : Room)) (fun a U => a = #[(.int p1), (.int p2)] ∧ Z.Warmed39 U.vm ∧ U.heap = h0) (fun _ _ _ _ _ => True) (fun _ U o U' => ∃ v L, o = .returned v ∧ PI h0 (f1 p1 p2) v U'.heap L ∧ FrameEnd U o U' L ({ frames := 0, cells := 0, slots := 0, locals := 0 } : Room).cells ({ frames := 0, cells := 0, slots := 0, locals := 0 } : Room).slots) := by
  refine MetFree.of_bodySF (plainFor_of_name pn_1) hisR ?_
  intro p e s m args below meth c s₁ Bd hml0 hP hK
  obtain ⟨rfl, hZ, hh⟩ := hP
  have hx := Bd.exec
  have hby := Bd.bytes
  have hlk := Bd.notSynchronized
  have hml : c.maxLocals = 2 := hml0
  have hown : s.vm.findClass "com/example/decompose/decompose/model/verify/NetworkOrder" = some m.cls := findClass_of_methodNamed Bd.named
  have X0 : Stand p l e ({ frames := 0, cells := 0, slots := 0, locals := 0 } : Room) s m #[(.int p1), (.int p2)] below meth c s₁ [] 0 0 := Stand.of_body Bd
  have e0 : s₁.heap = h0 := by rw [← hh, Bd.state]; rfl
  have B19 : ∀ (T : State), Stand p l e ({ frames := 0, cells := 0, slots := 0, locals := 0 } : Room) s m #[(.int p1), (.int p2)] below meth c T [] 0 0 → T.heap = h0 → ∀ (_ : True), Goes p e below s ({ frames := 0, cells := 0, slots := 0, locals := 0 } : Room).cells ({ frames := 0, cells := 0, slots := 0, locals := 0 } : Room).slots (PI h0 (f1_19 p1 p2)) T (mkF m 19 #[.val (.int p1), .val (.int p2)] []) := by
    intro T X eT _
    refine Goes.step (fun _ k => XS.iconst X.here hx rfl (hb hby d1_19) k) ?_
    show Goes p e below s _ _ _ T (mkF m 20 #[.val (.int p1), .val (.int p2)] [(.int (0 : Int32))])
    exact Goes.outN X hx hlk (t := .boolean) Bd.returns (by simp) (hb hby d1_20) ⟨rfl, rfl, eT⟩ (by decide) (by decide)
  show Goes p e below s ({ frames := 0, cells := 0, slots := 0, locals := 0 } : Room).cells ({ frames := 0, cells := 0, slots := 0, locals := 0 } : Room).slots (PI h0 (f1 p1 p2)) s₁ (entryFrame m #[(.int p1), (.int p2)] 2)
  refine Goes.step (fun t k => castTop (ef_1 m p1 p2) k) ?_
  refine Goes.step (fun _ k => XS.iloadN X0.here hx rfl (hb hby d1_0) rfl k) ?_
  show Goes p e below s _ _ _ s₁ (mkF m 1 #[.val (.int p1), .val (.int p2)] [(.int p1)])
  refine Goes.step (fun _ k => XS.iconst X0.here hx rfl (hb hby d1_1) k) ?_
  show Goes p e below s _ _ _ s₁ (mkF m 2 #[.val (.int p1), .val (.int p2)] [(.int (-1 : Int32)), (.int p1)])
  refine Goes.ite (Q := PI h0) (fun hc2 => ?_) (fun hc2 => ?_)
  · refine Goes.step (fun _ k => XS.icmpYes X0.here hx rfl (pc0 := 2) (pc' := 19) rfl (hb hby d1_2) rfl (teq hc2).1 (by decide) (by decide) k) ?_
    show Goes p e below s _ _ _ s₁ (mkF m 19 #[.val (.int p1), .val (.int p2)] [])
    exact B19 s₁ X0 e0 trivial
  · refine Goes.step (fun _ k => XS.icmpNo X0.here hx rfl (hb hby d1_2) rfl (feq hc2).1 k) ?_
    show Goes p e below s _ _ _ s₁ (mkF m 5 #[.val (.int p1), .val (.int p2)] [])
    refine Goes.step (fun _ k => XS.iloadN X0.here hx rfl (hb hby d1_5) rfl k) ?_
    show Goes p e below s _ _ _ s₁ (mkF m 6 #[.val (.int p1), .val (.int p2)] [(.int p2)])
    refine Goes.step (fun _ k => XS.iconst X0.here hx rfl (hb hby d1_6) k) ?_
    show Goes p e below s _ _ _ s₁ (mkF m 7 #[.val (.int p1), .val (.int p2)] [(.int (-1 : Int32)), (.int p2)])
    refine Goes.ite (Q := PI h0) (fun hc7 => ?_) (fun hc7 => ?_)
    · refine Goes.step (fun _ k => XS.icmpYes X0.here hx rfl (pc0 := 7) (pc' := 19) rfl (hb hby d1_7) rfl (teq hc7).1 (by decide) (by decide) k) ?_
      show Goes p e below s _ _ _ s₁ (mkF m 19 #[.val (.int p1), .val (.int p2)] [])
      exact B19 s₁ X0 e0 trivial
    · refine Goes.step (fun _ k => XS.icmpNo X0.here hx rfl (hb hby d1_7) rfl (feq hc7).1 k) ?_
      show Goes p e below s _ _ _ s₁ (mkF m 10 #[.val (.int p1), .val (.int p2)] [])
      refine Goes.step (fun _ k => XS.iloadN X0.here hx rfl (hb hby d1_10) rfl k) ?_
      show Goes p e below s _ _ _ s₁ (mkF m 11 #[.val (.int p1), .val (.int p2)] [(.int p1)])
      refine Goes.step (fun _ k => XS.iloadN X0.here hx rfl (hb hby d1_11) rfl k) ?_
      show Goes p e below s _ _ _ s₁ (mkF m 12 #[.val (.int p1), .val (.int p2)] [(.int p2), (.int p1)])
      refine Goes.ite (Q := PI h0) (fun hc12 => ?_) (fun hc12 => ?_)
      · refine Goes.step (fun _ k => XS.icmpNo X0.here hx rfl (hb hby d1_12) rfl (tlt hc12).2.2.2 k) ?_
        show Goes p e below s _ _ _ s₁ (mkF m 15 #[.val (.int p1), .val (.int p2)] [])
        refine Goes.step (fun _ k => XS.iconst X0.here hx rfl (hb hby d1_15) k) ?_
        show Goes p e below s _ _ _ s₁ (mkF m 16 #[.val (.int p1), .val (.int p2)] [(.int (1 : Int32))])
        refine Goes.step (fun _ k => XS.goto X0.here hx rfl (pc0 := 16) (pc' := 20) rfl (hb hby d1_16) (by decide) (by decide) k) ?_
        show Goes p e below s _ _ _ s₁ (mkF m 20 #[.val (.int p1), .val (.int p2)] [(.int (1 : Int32))])
        exact Goes.outN X0 hx hlk (t := .boolean) Bd.returns (by simp) (hb hby d1_20) ⟨rfl, rfl, e0⟩ (by decide) (by decide)
      · refine Goes.step (fun _ k => XS.icmpYes X0.here hx rfl (pc0 := 12) (pc' := 19) rfl (hb hby d1_12) rfl (flt hc12).2.2.2 (by decide) (by decide) k) ?_
        show Goes p e below s _ _ _ s₁ (mkF m 19 #[.val (.int p1), .val (.int p2)] [])
        exact B19 s₁ X0 e0 trivial
theorem pd_0_0 : parseMethodDescriptor "(II)Z" = some ⟨[.int, .int], some .boolean⟩ := by decide +kernel
theorem pn_0 : plainName "com/example/decompose/decompose/model/verify/NetworkOrderBreaksPinLaw" = true := by first | (simp [plainName, overriddenIn]; done) | decide +kernel
theorem ef_0 (m : MethodId) (p1 : Int32) (p2 : Int32) (p3 : Int32) : entryFrame m #[(.int p1), (.int p2), (.int p3)] maxLocals = mkF m 0 #[.val (.int p1), .val (.int p2), .val (.int p3), .unset, .unset, .unset, .unset, .unset, .unset, .unset, .unset] [] := by first | (simp [entryFrame, mkF, argsToLocals, Value.category, maxLocals]; done) | rfl
def f0_130 (p1 : Int32) (p2 : Int32) (p3 : Int32) (v3_130 : Int32) (v4_130 : Int32) (v5_130 : Int32) (v6_130 : Int32) (v7_130 : Int32) (v8_130 : Int32) (v9_130 : Int32) (v10_130 : Int32) : Int32 := (0 : Int32)
def f0_121 (p1 : Int32) (p2 : Int32) (p3 : Int32) (v3_121 : Int32) (v4_121 : Int32) (v5_121 : Int32) (v6_121 : Int32) (v7_121 : Int32) (v8_121 : Int32) (v9_121 : Int32) (v10_121 : Int32) : Int32 := (if (v10_121 = (0 : Int32)) then (1 : Int32) else (f0_130 p1 p2 p3 v3_121 v4_121 v5_121 v6_121 v7_121 v8_121 v9_121 v10_121))
def f0_75 (p1 : Int32) (p2 : Int32) (p3 : Int32) (v3_75 : Int32) (v4_75 : Int32) (v5_75 : Int32) (v6_75 : Int32) (t0_75 : Int32) : Int32 := (if ((f1 v5_75 v6_75) = t0_75) then (if ((f1 v5_75 v6_75) = (0 : Int32)) then (f0_121 p1 p2 p3 v3_75 v4_75 v5_75 v6_75 t0_75 (f1 v5_75 v6_75) (f1 v6_75 v5_75) (f1 v5_75 v5_75)) else (if ((f1 v6_75 v5_75) = (0 : Int32)) then (f0_121 p1 p2 p3 v3_75 v4_75 v5_75 v6_75 t0_75 (f1 v5_75 v6_75) (f1 v6_75 v5_75) (f1 v5_75 v5_75)) else (f0_130 p1 p2 p3 v3_75 v4_75 v5_75 v6_75 t0_75 (f1 v5_75 v6_75) (f1 v6_75 v5_75) (f1 v5_75 v5_75)))) else (f0_130 p1 p2 p3 v3_75 v4_75 v5_75 v6_75 t0_75 (f1 v5_75 v6_75) (f1 v6_75 v5_75) (f1 v5_75 v5_75)))
def f0_74 (p1 : Int32) (p2 : Int32) (p3 : Int32) (v3_74 : Int32) (v4_74 : Int32) (v5_74 : Int32) (v6_74 : Int32) : Int32 := (f0_75 p1 p2 p3 v3_74 v4_74 v5_74 v6_74 (0 : Int32))
def f0_52 (p1 : Int32) (p2 : Int32) (p3 : Int32) (v3_52 : Int32) (v4_52 : Int32) (v5_52 : Int32) (t0_52 : Int32) : Int32 := (if (v3_52 = (0 : Int32)) then (if (v4_52 = (0 : Int32)) then (if (t0_52 < v5_52) then (f0_75 p1 p2 p3 v3_52 v4_52 v5_52 t0_52 (1 : Int32)) else (f0_74 p1 p2 p3 v3_52 v4_52 v5_52 t0_52)) else (f0_74 p1 p2 p3 v3_52 v4_52 v5_52 t0_52)) else (f0_74 p1 p2 p3 v3_52 v4_52 v5_52 t0_52))
def f0_37 (p1 : Int32) (p2 : Int32) (p3 : Int32) (v3_37 : Int32) (v4_37 : Int32) (t0_37 : Int32) : Int32 := (if (v4_37 = (0 : Int32)) then (f0_52 p1 p2 p3 v3_37 v4_37 t0_37 (p2 &&& (2147483647 : Int32))) else (f0_52 p1 p2 p3 v3_37 v4_37 t0_37 (-1 : Int32)))
def f0_23 (p1 : Int32) (p2 : Int32) (p3 : Int32) (v3_23 : Int32) (t0_23 : Int32) : Int32 := (if (v3_23 = (0 : Int32)) then (f0_37 p1 p2 p3 v3_23 t0_23 (p1 &&& (2147483647 : Int32))) else (f0_37 p1 p2 p3 v3_23 t0_23 (-1 : Int32)))
def f0_11 (p1 : Int32) (p2 : Int32) (p3 : Int32) (t0_11 : Int32) : Int32 := (if ((p3 &&& (2 : Int32)) = (0 : Int32)) then (f0_23 p1 p2 p3 t0_11 (0 : Int32)) else (f0_23 p1 p2 p3 t0_11 (1 : Int32)))
def f0 (p1 : Int32) (p2 : Int32) (p3 : Int32) : Int32 := (if ((p3 &&& (1 : Int32)) = (0 : Int32)) then (f0_11 p1 p2 p3 (0 : Int32)) else (f0_11 p1 p2 p3 (1 : Int32)))
set_option maxRecDepth 65536 in
set_option maxHeartbeats 40000000 in
theorem rm0 (l : Launch) (Z : State) (a0 : Array Value) (hw : ∀ d ∈ tables_1, d.before a0 Z = true) (ws : List Jvm.Cond) (p1 : Int32) (p2 : Int32) (p3 : Int32) (h0 : Heap)  :
    MetFree l x (head1 (Jvm.Cond.code x code maxLocals ret :: ws) room_1) (fun a U => a = #[(.int p1), (.int p2), (.int p3)] ∧ Z.Warmed39 U.vm ∧ U.heap = h0) (fun _ _ _ _ _ => True) (fun _ U o U' => ∃ v L, o = .returned v ∧ PI h0 (f0 p1 p2 p3) v U'.heap L ∧ FrameEnd U o U' L room_1.cells room_1.slots) := by
  refine MetFree.of_bodySF (plainFor_of_name pn_0) hisR ?_
  intro p e s m args below meth c s₁ Bd hml0 hP hK
  obtain ⟨rfl, hZ, hh⟩ := hP
  have hx := Bd.exec
  have hby := Bd.bytes
  have hlk := Bd.notSynchronized
  have hml : c.maxLocals = 11 := hml0
  have hown : s.vm.findClass "com/example/decompose/decompose/model/verify/NetworkOrderBreaksPinLaw" = some m.cls := findClass_of_methodNamed Bd.named
  have X0 : Stand p l e room_1 s m #[(.int p1), (.int p2), (.int p3)] below meth c s₁ [] 0 0 := Stand.of_body Bd
  have e0 : s₁.heap = h0 := by rw [← hh, Bd.state]; rfl
  have B130 : ∀ (T : State), Stand p l e room_1 s m #[(.int p1), (.int p2), (.int p3)] below meth c T [] 0 0 → T.heap = h0 → ∀ (v3_130 : Int32) (v4_130 : Int32) (v5_130 : Int32) (v6_130 : Int32) (v7_130 : Int32) (v8_130 : Int32) (v9_130 : Int32) (v10_130 : Int32), Goes p e below s room_1.cells room_1.slots (PI h0 (f0_130 p1 p2 p3 v3_130 v4_130 v5_130 v6_130 v7_130 v8_130 v9_130 v10_130)) T (mkF m 130 #[.val (.int p1), .val (.int p2), .val (.int p3), .val (.int v3_130), .val (.int v4_130), .val (.int v5_130), .val (.int v6_130), .val (.int v7_130), .val (.int v8_130), .val (.int v9_130), .val (.int v10_130)] []) := by
    intro T X eT v3_130 v4_130 v5_130 v6_130 v7_130 v8_130 v9_130 v10_130
    refine Goes.step (fun _ k => XS.iconst X.here hx rfl (hb hby at_130) k) ?_
    show Goes p e below s _ _ _ T (mkF m 131 #[.val (.int p1), .val (.int p2), .val (.int p3), .val (.int v3_130), .val (.int v4_130), .val (.int v5_130), .val (.int v6_130), .val (.int v7_130), .val (.int v8_130), .val (.int v9_130), .val (.int v10_130)] [(.int (0 : Int32))])
    exact Goes.outN X hx hlk (t := .boolean) Bd.returns (by simp) (hb hby at_131) ⟨rfl, rfl, eT⟩ (by decide) (by decide)
  have B121 : ∀ (T : State), Stand p l e room_1 s m #[(.int p1), (.int p2), (.int p3)] below meth c T [] 0 0 → T.heap = h0 → ∀ (v3_121 : Int32) (v4_121 : Int32) (v5_121 : Int32) (v6_121 : Int32) (v7_121 : Int32) (v8_121 : Int32) (v9_121 : Int32) (v10_121 : Int32), Goes p e below s room_1.cells room_1.slots (PI h0 (f0_121 p1 p2 p3 v3_121 v4_121 v5_121 v6_121 v7_121 v8_121 v9_121 v10_121)) T (mkF m 121 #[.val (.int p1), .val (.int p2), .val (.int p3), .val (.int v3_121), .val (.int v4_121), .val (.int v5_121), .val (.int v6_121), .val (.int v7_121), .val (.int v8_121), .val (.int v9_121), .val (.int v10_121)] []) := by
    intro T X eT v3_121 v4_121 v5_121 v6_121 v7_121 v8_121 v9_121 v10_121
    refine Goes.step (fun _ k => XS.iload X.here hx rfl (hb hby at_121) rfl k) ?_
    show Goes p e below s _ _ _ T (mkF m 123 #[.val (.int p1), .val (.int p2), .val (.int p3), .val (.int v3_121), .val (.int v4_121), .val (.int v5_121), .val (.int v6_121), .val (.int v7_121), .val (.int v8_121), .val (.int v9_121), .val (.int v10_121)] [(.int v10_121)])
    refine Goes.ite (Q := PI h0) (fun hc123 => ?_) (fun hc123 => ?_)
    · refine Goes.step (fun _ k => XS.ifNo X.here hx rfl (hb hby at_123) rfl ((if0 _ _).trans (teq hc123).2) k) ?_
      show Goes p e below s _ _ _ T (mkF m 126 #[.val (.int p1), .val (.int p2), .val (.int p3), .val (.int v3_121), .val (.int v4_121), .val (.int v5_121), .val (.int v6_121), .val (.int v7_121), .val (.int v8_121), .val (.int v9_121), .val (.int v10_121)] [])
      refine Goes.step (fun _ k => XS.iconst X.here hx rfl (hb hby at_126) k) ?_
      show Goes p e below s _ _ _ T (mkF m 127 #[.val (.int p1), .val (.int p2), .val (.int p3), .val (.int v3_121), .val (.int v4_121), .val (.int v5_121), .val (.int v6_121), .val (.int v7_121), .val (.int v8_121), .val (.int v9_121), .val (.int v10_121)] [(.int (1 : Int32))])
      refine Goes.step (fun _ k => XS.goto X.here hx rfl (pc0 := 127) (pc' := 131) rfl (hb hby at_127) (by decide) (by decide) k) ?_
      show Goes p e below s _ _ _ T (mkF m 131 #[.val (.int p1), .val (.int p2), .val (.int p3), .val (.int v3_121), .val (.int v4_121), .val (.int v5_121), .val (.int v6_121), .val (.int v7_121), .val (.int v8_121), .val (.int v9_121), .val (.int v10_121)] [(.int (1 : Int32))])
      exact Goes.outN X hx hlk (t := .boolean) Bd.returns (by simp) (hb hby at_131) ⟨rfl, rfl, eT⟩ (by decide) (by decide)
    · refine Goes.step (fun _ k => XS.ifYes X.here hx rfl (pc0 := 123) (pc' := 130) rfl (hb hby at_123) rfl ((if0 _ _).trans (feq hc123).2) (by decide) (by decide) k) ?_
      show Goes p e below s _ _ _ T (mkF m 130 #[.val (.int p1), .val (.int p2), .val (.int p3), .val (.int v3_121), .val (.int v4_121), .val (.int v5_121), .val (.int v6_121), .val (.int v7_121), .val (.int v8_121), .val (.int v9_121), .val (.int v10_121)] [])
      exact B130 T X eT v3_121 v4_121 v5_121 v6_121 v7_121 v8_121 v9_121 v10_121
  have B75 : ∀ (T : State), Stand p l e room_1 s m #[(.int p1), (.int p2), (.int p3)] below meth c T [] 0 0 → T.heap = h0 → ∀ (v3_75 : Int32) (v4_75 : Int32) (v5_75 : Int32) (v6_75 : Int32) (t0_75 : Int32), Goes p e below s room_1.cells room_1.slots (PI h0 (f0_75 p1 p2 p3 v3_75 v4_75 v5_75 v6_75 t0_75)) T (mkF m 75 #[.val (.int p1), .val (.int p2), .val (.int p3), .val (.int v3_75), .val (.int v4_75), .val (.int v5_75), .val (.int v6_75), .unset, .unset, .unset, .unset] [(.int t0_75)]) := by
    intro T X eT v3_75 v4_75 v5_75 v6_75 t0_75
    refine Goes.step (fun _ k => XS.istore X.here hx rfl (hb hby at_75) rfl (l' := #[.val (.int p1), .val (.int p2), .val (.int p3), .val (.int v3_75), .val (.int v4_75), .val (.int v5_75), .val (.int v6_75), .val (.int t0_75), .unset, .unset, .unset]) rfl k) ?_
    show Goes p e below s _ _ _ T (mkF m 77 #[.val (.int p1), .val (.int p2), .val (.int p3), .val (.int v3_75), .val (.int v4_75), .val (.int v5_75), .val (.int v6_75), .val (.int t0_75), .unset, .unset, .unset] [])
    refine Goes.step (fun _ k => XS.iload X.here hx rfl (hb hby at_77) rfl k) ?_
    show Goes p e below s _ _ _ T (mkF m 79 #[.val (.int p1), .val (.int p2), .val (.int p3), .val (.int v3_75), .val (.int v4_75), .val (.int v5_75), .val (.int v6_75), .val (.int t0_75), .unset, .unset, .unset] [(.int v5_75)])
    refine Goes.step (fun _ k => XS.iload X.here hx rfl (hb hby at_79) rfl k) ?_
    show Goes p e below s _ _ _ T (mkF m 81 #[.val (.int p1), .val (.int p2), .val (.int p3), .val (.int v3_75), .val (.int v4_75), .val (.int v5_75), .val (.int v6_75), .val (.int t0_75), .unset, .unset, .unset] [(.int v6_75), (.int v5_75)])
    obtain ⟨T1, X1, e1, st1⟩ := callPure X hx hZ (y := (⟨"com/example/decompose/decompose/model/verify/NetworkOrder", "breaks", "(II)Z"⟩ : MethodName)) hown (hw _ (List.mem_of_getElem? (i := 1) rfl)) (hw _ (List.mem_of_getElem? (i := 2) rfl)) (hw _ (List.mem_of_getElem? (i := 3) rfl)) (hw _ (List.mem_of_getElem? (i := 4) rfl)) (by decide) (W := 0) (argsL := [(.int v5_75), (.int v6_75)]) (rest := []) (r := (.int (f1 v5_75 v6_75))) (fun _ _ _ q => q) (rm1 l Z a0 hw [] v5_75 v6_75 h0 ) (by decide) (by decide) (by decide) (by decide) eT (g := (mkF m 81 #[.val (.int p1), .val (.int p2), .val (.int p3), .val (.int v3_75), .val (.int v4_75), .val (.int v5_75), .val (.int v6_75), .val (.int t0_75), .unset, .unset, .unset] [(.int v6_75), (.int v5_75)])) rfl (by rw [hml]; rfl) (lenOf pd_0_0 rfl) rfl (by show 2 * 0 + _ ≤ _; exact Nat.le_of_eq rfl) (hb hby at_81)
    refine Goes.step st1 ?_
    show Goes p e below s _ _ _ T1 (mkF m 84 #[.val (.int p1), .val (.int p2), .val (.int p3), .val (.int v3_75), .val (.int v4_75), .val (.int v5_75), .val (.int v6_75), .val (.int t0_75), .unset, .unset, .unset] [(.int (f1 v5_75 v6_75))])
    refine Goes.step (fun _ k => XS.istore X1.here hx rfl (hb hby at_84) rfl (l' := #[.val (.int p1), .val (.int p2), .val (.int p3), .val (.int v3_75), .val (.int v4_75), .val (.int v5_75), .val (.int v6_75), .val (.int t0_75), .val (.int (f1 v5_75 v6_75)), .unset, .unset]) rfl k) ?_
    show Goes p e below s _ _ _ T1 (mkF m 86 #[.val (.int p1), .val (.int p2), .val (.int p3), .val (.int v3_75), .val (.int v4_75), .val (.int v5_75), .val (.int v6_75), .val (.int t0_75), .val (.int (f1 v5_75 v6_75)), .unset, .unset] [])
    refine Goes.step (fun _ k => XS.iload X1.here hx rfl (hb hby at_86) rfl k) ?_
    show Goes p e below s _ _ _ T1 (mkF m 88 #[.val (.int p1), .val (.int p2), .val (.int p3), .val (.int v3_75), .val (.int v4_75), .val (.int v5_75), .val (.int v6_75), .val (.int t0_75), .val (.int (f1 v5_75 v6_75)), .unset, .unset] [(.int v6_75)])
    refine Goes.step (fun _ k => XS.iload X1.here hx rfl (hb hby at_88) rfl k) ?_
    show Goes p e below s _ _ _ T1 (mkF m 90 #[.val (.int p1), .val (.int p2), .val (.int p3), .val (.int v3_75), .val (.int v4_75), .val (.int v5_75), .val (.int v6_75), .val (.int t0_75), .val (.int (f1 v5_75 v6_75)), .unset, .unset] [(.int v5_75), (.int v6_75)])
    obtain ⟨T2, X2, e2, st2⟩ := callPure X1 hx hZ (y := (⟨"com/example/decompose/decompose/model/verify/NetworkOrder", "breaks", "(II)Z"⟩ : MethodName)) hown (hw _ (List.mem_of_getElem? (i := 1) rfl)) (hw _ (List.mem_of_getElem? (i := 2) rfl)) (hw _ (List.mem_of_getElem? (i := 3) rfl)) (hw _ (List.mem_of_getElem? (i := 4) rfl)) (by decide) (W := 0) (argsL := [(.int v6_75), (.int v5_75)]) (rest := []) (r := (.int (f1 v6_75 v5_75))) (fun _ _ _ q => q) (rm1 l Z a0 hw [] v6_75 v5_75 h0 ) (by decide) (by decide) (by decide) (by decide) e1 (g := (mkF m 90 #[.val (.int p1), .val (.int p2), .val (.int p3), .val (.int v3_75), .val (.int v4_75), .val (.int v5_75), .val (.int v6_75), .val (.int t0_75), .val (.int (f1 v5_75 v6_75)), .unset, .unset] [(.int v5_75), (.int v6_75)])) rfl (by rw [hml]; rfl) (lenOf pd_0_0 rfl) rfl (by show 2 * 0 + _ ≤ _; exact Nat.le_of_eq rfl) (hb hby at_90)
    refine Goes.step st2 ?_
    show Goes p e below s _ _ _ T2 (mkF m 93 #[.val (.int p1), .val (.int p2), .val (.int p3), .val (.int v3_75), .val (.int v4_75), .val (.int v5_75), .val (.int v6_75), .val (.int t0_75), .val (.int (f1 v5_75 v6_75)), .unset, .unset] [(.int (f1 v6_75 v5_75))])
    refine Goes.step (fun _ k => XS.istore X2.here hx rfl (hb hby at_93) rfl (l' := #[.val (.int p1), .val (.int p2), .val (.int p3), .val (.int v3_75), .val (.int v4_75), .val (.int v5_75), .val (.int v6_75), .val (.int t0_75), .val (.int (f1 v5_75 v6_75)), .val (.int (f1 v6_75 v5_75)), .unset]) rfl k) ?_
    show Goes p e below s _ _ _ T2 (mkF m 95 #[.val (.int p1), .val (.int p2), .val (.int p3), .val (.int v3_75), .val (.int v4_75), .val (.int v5_75), .val (.int v6_75), .val (.int t0_75), .val (.int (f1 v5_75 v6_75)), .val (.int (f1 v6_75 v5_75)), .unset] [])
    refine Goes.step (fun _ k => XS.iload X2.here hx rfl (hb hby at_95) rfl k) ?_
    show Goes p e below s _ _ _ T2 (mkF m 97 #[.val (.int p1), .val (.int p2), .val (.int p3), .val (.int v3_75), .val (.int v4_75), .val (.int v5_75), .val (.int v6_75), .val (.int t0_75), .val (.int (f1 v5_75 v6_75)), .val (.int (f1 v6_75 v5_75)), .unset] [(.int v5_75)])
    refine Goes.step (fun _ k => XS.iload X2.here hx rfl (hb hby at_97) rfl k) ?_
    show Goes p e below s _ _ _ T2 (mkF m 99 #[.val (.int p1), .val (.int p2), .val (.int p3), .val (.int v3_75), .val (.int v4_75), .val (.int v5_75), .val (.int v6_75), .val (.int t0_75), .val (.int (f1 v5_75 v6_75)), .val (.int (f1 v6_75 v5_75)), .unset] [(.int v5_75), (.int v5_75)])
    obtain ⟨T3, X3, e3, st3⟩ := callPure X2 hx hZ (y := (⟨"com/example/decompose/decompose/model/verify/NetworkOrder", "breaks", "(II)Z"⟩ : MethodName)) hown (hw _ (List.mem_of_getElem? (i := 1) rfl)) (hw _ (List.mem_of_getElem? (i := 2) rfl)) (hw _ (List.mem_of_getElem? (i := 3) rfl)) (hw _ (List.mem_of_getElem? (i := 4) rfl)) (by decide) (W := 0) (argsL := [(.int v5_75), (.int v5_75)]) (rest := []) (r := (.int (f1 v5_75 v5_75))) (fun _ _ _ q => q) (rm1 l Z a0 hw [] v5_75 v5_75 h0 ) (by decide) (by decide) (by decide) (by decide) e2 (g := (mkF m 99 #[.val (.int p1), .val (.int p2), .val (.int p3), .val (.int v3_75), .val (.int v4_75), .val (.int v5_75), .val (.int v6_75), .val (.int t0_75), .val (.int (f1 v5_75 v6_75)), .val (.int (f1 v6_75 v5_75)), .unset] [(.int v5_75), (.int v5_75)])) rfl (by rw [hml]; rfl) (lenOf pd_0_0 rfl) rfl (by show 2 * 0 + _ ≤ _; exact Nat.le_of_eq rfl) (hb hby at_99)
    refine Goes.step st3 ?_
    show Goes p e below s _ _ _ T3 (mkF m 102 #[.val (.int p1), .val (.int p2), .val (.int p3), .val (.int v3_75), .val (.int v4_75), .val (.int v5_75), .val (.int v6_75), .val (.int t0_75), .val (.int (f1 v5_75 v6_75)), .val (.int (f1 v6_75 v5_75)), .unset] [(.int (f1 v5_75 v5_75))])
    refine Goes.step (fun _ k => XS.istore X3.here hx rfl (hb hby at_102) rfl (l' := #[.val (.int p1), .val (.int p2), .val (.int p3), .val (.int v3_75), .val (.int v4_75), .val (.int v5_75), .val (.int v6_75), .val (.int t0_75), .val (.int (f1 v5_75 v6_75)), .val (.int (f1 v6_75 v5_75)), .val (.int (f1 v5_75 v5_75))]) rfl k) ?_
    show Goes p e below s _ _ _ T3 (mkF m 104 #[.val (.int p1), .val (.int p2), .val (.int p3), .val (.int v3_75), .val (.int v4_75), .val (.int v5_75), .val (.int v6_75), .val (.int t0_75), .val (.int (f1 v5_75 v6_75)), .val (.int (f1 v6_75 v5_75)), .val (.int (f1 v5_75 v5_75))] [])
    refine Goes.step (fun _ k => XS.iload X3.here hx rfl (hb hby at_104) rfl k) ?_
    show Goes p e below s _ _ _ T3 (mkF m 106 #[.val (.int p1), .val (.int p2), .val (.int p3), .val (.int v3_75), .val (.int v4_75), .val (.int v5_75), .val (.int v6_75), .val (.int t0_75), .val (.int (f1 v5_75 v6_75)), .val (.int (f1 v6_75 v5_75)), .val (.int (f1 v5_75 v5_75))] [(.int (f1 v5_75 v6_75))])
    refine Goes.step (fun _ k => XS.iload X3.here hx rfl (hb hby at_106) rfl k) ?_
    show Goes p e below s _ _ _ T3 (mkF m 108 #[.val (.int p1), .val (.int p2), .val (.int p3), .val (.int v3_75), .val (.int v4_75), .val (.int v5_75), .val (.int v6_75), .val (.int t0_75), .val (.int (f1 v5_75 v6_75)), .val (.int (f1 v6_75 v5_75)), .val (.int (f1 v5_75 v5_75))] [(.int t0_75), (.int (f1 v5_75 v6_75))])
    refine Goes.ite (Q := PI h0) (fun hc108 => ?_) (fun hc108 => ?_)
    · refine Goes.step (fun _ k => XS.icmpNo X3.here hx rfl (hb hby at_108) rfl (teq hc108).2 k) ?_
      show Goes p e below s _ _ _ T3 (mkF m 111 #[.val (.int p1), .val (.int p2), .val (.int p3), .val (.int v3_75), .val (.int v4_75), .val (.int v5_75), .val (.int v6_75), .val (.int t0_75), .val (.int (f1 v5_75 v6_75)), .val (.int (f1 v6_75 v5_75)), .val (.int (f1 v5_75 v5_75))] [])
      refine Goes.step (fun _ k => XS.iload X3.here hx rfl (hb hby at_111) rfl k) ?_
      show Goes p e below s _ _ _ T3 (mkF m 113 #[.val (.int p1), .val (.int p2), .val (.int p3), .val (.int v3_75), .val (.int v4_75), .val (.int v5_75), .val (.int v6_75), .val (.int t0_75), .val (.int (f1 v5_75 v6_75)), .val (.int (f1 v6_75 v5_75)), .val (.int (f1 v5_75 v5_75))] [(.int (f1 v5_75 v6_75))])
      refine Goes.ite (Q := PI h0) (fun hc113 => ?_) (fun hc113 => ?_)
      · refine Goes.step (fun _ k => XS.ifYes X3.here hx rfl (pc0 := 113) (pc' := 121) rfl (hb hby at_113) rfl ((if0 _ _).trans (teq hc113).1) (by decide) (by decide) k) ?_
        show Goes p e below s _ _ _ T3 (mkF m 121 #[.val (.int p1), .val (.int p2), .val (.int p3), .val (.int v3_75), .val (.int v4_75), .val (.int v5_75), .val (.int v6_75), .val (.int t0_75), .val (.int (f1 v5_75 v6_75)), .val (.int (f1 v6_75 v5_75)), .val (.int (f1 v5_75 v5_75))] [])
        exact B121 T3 X3 e3 v3_75 v4_75 v5_75 v6_75 t0_75 (f1 v5_75 v6_75) (f1 v6_75 v5_75) (f1 v5_75 v5_75)
      · refine Goes.step (fun _ k => XS.ifNo X3.here hx rfl (hb hby at_113) rfl ((if0 _ _).trans (feq hc113).1) k) ?_
        show Goes p e below s _ _ _ T3 (mkF m 116 #[.val (.int p1), .val (.int p2), .val (.int p3), .val (.int v3_75), .val (.int v4_75), .val (.int v5_75), .val (.int v6_75), .val (.int t0_75), .val (.int (f1 v5_75 v6_75)), .val (.int (f1 v6_75 v5_75)), .val (.int (f1 v5_75 v5_75))] [])
        refine Goes.step (fun _ k => XS.iload X3.here hx rfl (hb hby at_116) rfl k) ?_
        show Goes p e below s _ _ _ T3 (mkF m 118 #[.val (.int p1), .val (.int p2), .val (.int p3), .val (.int v3_75), .val (.int v4_75), .val (.int v5_75), .val (.int v6_75), .val (.int t0_75), .val (.int (f1 v5_75 v6_75)), .val (.int (f1 v6_75 v5_75)), .val (.int (f1 v5_75 v5_75))] [(.int (f1 v6_75 v5_75))])
        refine Goes.ite (Q := PI h0) (fun hc118 => ?_) (fun hc118 => ?_)
        · refine Goes.step (fun _ k => XS.ifNo X3.here hx rfl (hb hby at_118) rfl ((if0 _ _).trans (teq hc118).2) k) ?_
          show Goes p e below s _ _ _ T3 (mkF m 121 #[.val (.int p1), .val (.int p2), .val (.int p3), .val (.int v3_75), .val (.int v4_75), .val (.int v5_75), .val (.int v6_75), .val (.int t0_75), .val (.int (f1 v5_75 v6_75)), .val (.int (f1 v6_75 v5_75)), .val (.int (f1 v5_75 v5_75))] [])
          exact B121 T3 X3 e3 v3_75 v4_75 v5_75 v6_75 t0_75 (f1 v5_75 v6_75) (f1 v6_75 v5_75) (f1 v5_75 v5_75)
        · refine Goes.step (fun _ k => XS.ifYes X3.here hx rfl (pc0 := 118) (pc' := 130) rfl (hb hby at_118) rfl ((if0 _ _).trans (feq hc118).2) (by decide) (by decide) k) ?_
          show Goes p e below s _ _ _ T3 (mkF m 130 #[.val (.int p1), .val (.int p2), .val (.int p3), .val (.int v3_75), .val (.int v4_75), .val (.int v5_75), .val (.int v6_75), .val (.int t0_75), .val (.int (f1 v5_75 v6_75)), .val (.int (f1 v6_75 v5_75)), .val (.int (f1 v5_75 v5_75))] [])
          exact B130 T3 X3 e3 v3_75 v4_75 v5_75 v6_75 t0_75 (f1 v5_75 v6_75) (f1 v6_75 v5_75) (f1 v5_75 v5_75)
    · refine Goes.step (fun _ k => XS.icmpYes X3.here hx rfl (pc0 := 108) (pc' := 130) rfl (hb hby at_108) rfl (feq hc108).2 (by decide) (by decide) k) ?_
      show Goes p e below s _ _ _ T3 (mkF m 130 #[.val (.int p1), .val (.int p2), .val (.int p3), .val (.int v3_75), .val (.int v4_75), .val (.int v5_75), .val (.int v6_75), .val (.int t0_75), .val (.int (f1 v5_75 v6_75)), .val (.int (f1 v6_75 v5_75)), .val (.int (f1 v5_75 v5_75))] [])
      exact B130 T3 X3 e3 v3_75 v4_75 v5_75 v6_75 t0_75 (f1 v5_75 v6_75) (f1 v6_75 v5_75) (f1 v5_75 v5_75)
  have B74 : ∀ (T : State), Stand p l e room_1 s m #[(.int p1), (.int p2), (.int p3)] below meth c T [] 0 0 → T.heap = h0 → ∀ (v3_74 : Int32) (v4_74 : Int32) (v5_74 : Int32) (v6_74 : Int32), Goes p e below s room_1.cells room_1.slots (PI h0 (f0_74 p1 p2 p3 v3_74 v4_74 v5_74 v6_74)) T (mkF m 74 #[.val (.int p1), .val (.int p2), .val (.int p3), .val (.int v3_74), .val (.int v4_74), .val (.int v5_74), .val (.int v6_74), .unset, .unset, .unset, .unset] []) := by
    intro T X eT v3_74 v4_74 v5_74 v6_74
    refine Goes.step (fun _ k => XS.iconst X.here hx rfl (hb hby at_74) k) ?_
    show Goes p e below s _ _ _ T (mkF m 75 #[.val (.int p1), .val (.int p2), .val (.int p3), .val (.int v3_74), .val (.int v4_74), .val (.int v5_74), .val (.int v6_74), .unset, .unset, .unset, .unset] [(.int (0 : Int32))])
    exact B75 T X eT v3_74 v4_74 v5_74 v6_74 (0 : Int32)
  have B52 : ∀ (T : State), Stand p l e room_1 s m #[(.int p1), (.int p2), (.int p3)] below meth c T [] 0 0 → T.heap = h0 → ∀ (v3_52 : Int32) (v4_52 : Int32) (v5_52 : Int32) (t0_52 : Int32), Goes p e below s room_1.cells room_1.slots (PI h0 (f0_52 p1 p2 p3 v3_52 v4_52 v5_52 t0_52)) T (mkF m 52 #[.val (.int p1), .val (.int p2), .val (.int p3), .val (.int v3_52), .val (.int v4_52), .val (.int v5_52), .unset, .unset, .unset, .unset, .unset] [(.int t0_52)]) := by
    intro T X eT v3_52 v4_52 v5_52 t0_52
    refine Goes.step (fun _ k => XS.istore X.here hx rfl (hb hby at_52) rfl (l' := #[.val (.int p1), .val (.int p2), .val (.int p3), .val (.int v3_52), .val (.int v4_52), .val (.int v5_52), .val (.int t0_52), .unset, .unset, .unset, .unset]) rfl k) ?_
    show Goes p e below s _ _ _ T (mkF m 54 #[.val (.int p1), .val (.int p2), .val (.int p3), .val (.int v3_52), .val (.int v4_52), .val (.int v5_52), .val (.int t0_52), .unset, .unset, .unset, .unset] [])
    refine Goes.step (fun _ k => XS.iloadN X.here hx rfl (hb hby at_54) rfl k) ?_
    show Goes p e below s _ _ _ T (mkF m 55 #[.val (.int p1), .val (.int p2), .val (.int p3), .val (.int v3_52), .val (.int v4_52), .val (.int v5_52), .val (.int t0_52), .unset, .unset, .unset, .unset] [(.int v3_52)])
    refine Goes.ite (Q := PI h0) (fun hc55 => ?_) (fun hc55 => ?_)
    · refine Goes.step (fun _ k => XS.ifNo X.here hx rfl (hb hby at_55) rfl ((if0 _ _).trans (teq hc55).2) k) ?_
      show Goes p e below s _ _ _ T (mkF m 58 #[.val (.int p1), .val (.int p2), .val (.int p3), .val (.int v3_52), .val (.int v4_52), .val (.int v5_52), .val (.int t0_52), .unset, .unset, .unset, .unset] [])
      refine Goes.step (fun _ k => XS.iload X.here hx rfl (hb hby at_58) rfl k) ?_
      show Goes p e below s _ _ _ T (mkF m 60 #[.val (.int p1), .val (.int p2), .val (.int p3), .val (.int v3_52), .val (.int v4_52), .val (.int v5_52), .val (.int t0_52), .unset, .unset, .unset, .unset] [(.int v4_52)])
      refine Goes.ite (Q := PI h0) (fun hc60 => ?_) (fun hc60 => ?_)
      · refine Goes.step (fun _ k => XS.ifNo X.here hx rfl (hb hby at_60) rfl ((if0 _ _).trans (teq hc60).2) k) ?_
        show Goes p e below s _ _ _ T (mkF m 63 #[.val (.int p1), .val (.int p2), .val (.int p3), .val (.int v3_52), .val (.int v4_52), .val (.int v5_52), .val (.int t0_52), .unset, .unset, .unset, .unset] [])
        refine Goes.step (fun _ k => XS.iload X.here hx rfl (hb hby at_63) rfl k) ?_
        show Goes p e below s _ _ _ T (mkF m 65 #[.val (.int p1), .val (.int p2), .val (.int p3), .val (.int v3_52), .val (.int v4_52), .val (.int v5_52), .val (.int t0_52), .unset, .unset, .unset, .unset] [(.int v5_52)])
        refine Goes.step (fun _ k => XS.iload X.here hx rfl (hb hby at_65) rfl k) ?_
        show Goes p e below s _ _ _ T (mkF m 67 #[.val (.int p1), .val (.int p2), .val (.int p3), .val (.int v3_52), .val (.int v4_52), .val (.int v5_52), .val (.int t0_52), .unset, .unset, .unset, .unset] [(.int t0_52), (.int v5_52)])
        refine Goes.ite (Q := PI h0) (fun hc67 => ?_) (fun hc67 => ?_)
        · refine Goes.step (fun _ k => XS.icmpNo X.here hx rfl (hb hby at_67) rfl (tlt hc67).2.2.2 k) ?_
          show Goes p e below s _ _ _ T (mkF m 70 #[.val (.int p1), .val (.int p2), .val (.int p3), .val (.int v3_52), .val (.int v4_52), .val (.int v5_52), .val (.int t0_52), .unset, .unset, .unset, .unset] [])
          refine Goes.step (fun _ k => XS.iconst X.here hx rfl (hb hby at_70) k) ?_
          show Goes p e below s _ _ _ T (mkF m 71 #[.val (.int p1), .val (.int p2), .val (.int p3), .val (.int v3_52), .val (.int v4_52), .val (.int v5_52), .val (.int t0_52), .unset, .unset, .unset, .unset] [(.int (1 : Int32))])
          refine Goes.step (fun _ k => XS.goto X.here hx rfl (pc0 := 71) (pc' := 75) rfl (hb hby at_71) (by decide) (by decide) k) ?_
          show Goes p e below s _ _ _ T (mkF m 75 #[.val (.int p1), .val (.int p2), .val (.int p3), .val (.int v3_52), .val (.int v4_52), .val (.int v5_52), .val (.int t0_52), .unset, .unset, .unset, .unset] [(.int (1 : Int32))])
          exact B75 T X eT v3_52 v4_52 v5_52 t0_52 (1 : Int32)
        · refine Goes.step (fun _ k => XS.icmpYes X.here hx rfl (pc0 := 67) (pc' := 74) rfl (hb hby at_67) rfl (flt hc67).2.2.2 (by decide) (by decide) k) ?_
          show Goes p e below s _ _ _ T (mkF m 74 #[.val (.int p1), .val (.int p2), .val (.int p3), .val (.int v3_52), .val (.int v4_52), .val (.int v5_52), .val (.int t0_52), .unset, .unset, .unset, .unset] [])
          exact B74 T X eT v3_52 v4_52 v5_52 t0_52
      · refine Goes.step (fun _ k => XS.ifYes X.here hx rfl (pc0 := 60) (pc' := 74) rfl (hb hby at_60) rfl ((if0 _ _).trans (feq hc60).2) (by decide) (by decide) k) ?_
        show Goes p e below s _ _ _ T (mkF m 74 #[.val (.int p1), .val (.int p2), .val (.int p3), .val (.int v3_52), .val (.int v4_52), .val (.int v5_52), .val (.int t0_52), .unset, .unset, .unset, .unset] [])
        exact B74 T X eT v3_52 v4_52 v5_52 t0_52
    · refine Goes.step (fun _ k => XS.ifYes X.here hx rfl (pc0 := 55) (pc' := 74) rfl (hb hby at_55) rfl ((if0 _ _).trans (feq hc55).2) (by decide) (by decide) k) ?_
      show Goes p e below s _ _ _ T (mkF m 74 #[.val (.int p1), .val (.int p2), .val (.int p3), .val (.int v3_52), .val (.int v4_52), .val (.int v5_52), .val (.int t0_52), .unset, .unset, .unset, .unset] [])
      exact B74 T X eT v3_52 v4_52 v5_52 t0_52
  have B37 : ∀ (T : State), Stand p l e room_1 s m #[(.int p1), (.int p2), (.int p3)] below meth c T [] 0 0 → T.heap = h0 → ∀ (v3_37 : Int32) (v4_37 : Int32) (t0_37 : Int32), Goes p e below s room_1.cells room_1.slots (PI h0 (f0_37 p1 p2 p3 v3_37 v4_37 t0_37)) T (mkF m 37 #[.val (.int p1), .val (.int p2), .val (.int p3), .val (.int v3_37), .val (.int v4_37), .unset, .unset, .unset, .unset, .unset, .unset] [(.int t0_37)]) := by
    intro T X eT v3_37 v4_37 t0_37
    refine Goes.step (fun _ k => XS.istore X.here hx rfl (hb hby at_37) rfl (l' := #[.val (.int p1), .val (.int p2), .val (.int p3), .val (.int v3_37), .val (.int v4_37), .val (.int t0_37), .unset, .unset, .unset, .unset, .unset]) rfl k) ?_
    show Goes p e below s _ _ _ T (mkF m 39 #[.val (.int p1), .val (.int p2), .val (.int p3), .val (.int v3_37), .val (.int v4_37), .val (.int t0_37), .unset, .unset, .unset, .unset, .unset] [])
    refine Goes.step (fun _ k => XS.iload X.here hx rfl (hb hby at_39) rfl k) ?_
    show Goes p e below s _ _ _ T (mkF m 41 #[.val (.int p1), .val (.int p2), .val (.int p3), .val (.int v3_37), .val (.int v4_37), .val (.int t0_37), .unset, .unset, .unset, .unset, .unset] [(.int v4_37)])
    refine Goes.ite (Q := PI h0) (fun hc41 => ?_) (fun hc41 => ?_)
    · refine Goes.step (fun _ k => XS.ifYes X.here hx rfl (pc0 := 41) (pc' := 48) rfl (hb hby at_41) rfl ((if0 _ _).trans (teq hc41).1) (by decide) (by decide) k) ?_
      show Goes p e below s _ _ _ T (mkF m 48 #[.val (.int p1), .val (.int p2), .val (.int p3), .val (.int v3_37), .val (.int v4_37), .val (.int t0_37), .unset, .unset, .unset, .unset, .unset] [])
      refine Goes.step (fun _ k => XS.iloadN X.here hx rfl (hb hby at_48) rfl k) ?_
      show Goes p e below s _ _ _ T (mkF m 49 #[.val (.int p1), .val (.int p2), .val (.int p3), .val (.int v3_37), .val (.int v4_37), .val (.int t0_37), .unset, .unset, .unset, .unset, .unset] [(.int p2)])
      refine Goes.step (fun _ k => X.ldcInt hx hown (mvT hZ (hw _ (List.mem_of_getElem? (i := 0) rfl))) (g := (mkF m 49 #[.val (.int p1), .val (.int p2), .val (.int p3), .val (.int v3_37), .val (.int v4_37), .val (.int t0_37), .unset, .unset, .unset, .unset, .unset] [(.int p2)])) rfl (hb hby at_49) _ k) ?_
      show Goes p e below s _ _ _ T (mkF m 51 #[.val (.int p1), .val (.int p2), .val (.int p3), .val (.int v3_37), .val (.int v4_37), .val (.int t0_37), .unset, .unset, .unset, .unset, .unset] [(.int (2147483647 : Int32)), (.int p2)])
      refine Goes.step (fun _ k => XS.iand X.here hx rfl (hb hby at_51) rfl k) ?_
      show Goes p e below s _ _ _ T (mkF m 52 #[.val (.int p1), .val (.int p2), .val (.int p3), .val (.int v3_37), .val (.int v4_37), .val (.int t0_37), .unset, .unset, .unset, .unset, .unset] [(.int (p2 &&& (2147483647 : Int32)))])
      exact B52 T X eT v3_37 v4_37 t0_37 (p2 &&& (2147483647 : Int32))
    · refine Goes.step (fun _ k => XS.ifNo X.here hx rfl (hb hby at_41) rfl ((if0 _ _).trans (feq hc41).1) k) ?_
      show Goes p e below s _ _ _ T (mkF m 44 #[.val (.int p1), .val (.int p2), .val (.int p3), .val (.int v3_37), .val (.int v4_37), .val (.int t0_37), .unset, .unset, .unset, .unset, .unset] [])
      refine Goes.step (fun _ k => XS.iconst X.here hx rfl (hb hby at_44) k) ?_
      show Goes p e below s _ _ _ T (mkF m 45 #[.val (.int p1), .val (.int p2), .val (.int p3), .val (.int v3_37), .val (.int v4_37), .val (.int t0_37), .unset, .unset, .unset, .unset, .unset] [(.int (-1 : Int32))])
      refine Goes.step (fun _ k => XS.goto X.here hx rfl (pc0 := 45) (pc' := 52) rfl (hb hby at_45) (by decide) (by decide) k) ?_
      show Goes p e below s _ _ _ T (mkF m 52 #[.val (.int p1), .val (.int p2), .val (.int p3), .val (.int v3_37), .val (.int v4_37), .val (.int t0_37), .unset, .unset, .unset, .unset, .unset] [(.int (-1 : Int32))])
      exact B52 T X eT v3_37 v4_37 t0_37 (-1 : Int32)
  have B23 : ∀ (T : State), Stand p l e room_1 s m #[(.int p1), (.int p2), (.int p3)] below meth c T [] 0 0 → T.heap = h0 → ∀ (v3_23 : Int32) (t0_23 : Int32), Goes p e below s room_1.cells room_1.slots (PI h0 (f0_23 p1 p2 p3 v3_23 t0_23)) T (mkF m 23 #[.val (.int p1), .val (.int p2), .val (.int p3), .val (.int v3_23), .unset, .unset, .unset, .unset, .unset, .unset, .unset] [(.int t0_23)]) := by
    intro T X eT v3_23 t0_23
    refine Goes.step (fun _ k => XS.istore X.here hx rfl (hb hby at_23) rfl (l' := #[.val (.int p1), .val (.int p2), .val (.int p3), .val (.int v3_23), .val (.int t0_23), .unset, .unset, .unset, .unset, .unset, .unset]) rfl k) ?_
    show Goes p e below s _ _ _ T (mkF m 25 #[.val (.int p1), .val (.int p2), .val (.int p3), .val (.int v3_23), .val (.int t0_23), .unset, .unset, .unset, .unset, .unset, .unset] [])
    refine Goes.step (fun _ k => XS.iloadN X.here hx rfl (hb hby at_25) rfl k) ?_
    show Goes p e below s _ _ _ T (mkF m 26 #[.val (.int p1), .val (.int p2), .val (.int p3), .val (.int v3_23), .val (.int t0_23), .unset, .unset, .unset, .unset, .unset, .unset] [(.int v3_23)])
    refine Goes.ite (Q := PI h0) (fun hc26 => ?_) (fun hc26 => ?_)
    · refine Goes.step (fun _ k => XS.ifYes X.here hx rfl (pc0 := 26) (pc' := 33) rfl (hb hby at_26) rfl ((if0 _ _).trans (teq hc26).1) (by decide) (by decide) k) ?_
      show Goes p e below s _ _ _ T (mkF m 33 #[.val (.int p1), .val (.int p2), .val (.int p3), .val (.int v3_23), .val (.int t0_23), .unset, .unset, .unset, .unset, .unset, .unset] [])
      refine Goes.step (fun _ k => XS.iloadN X.here hx rfl (hb hby at_33) rfl k) ?_
      show Goes p e below s _ _ _ T (mkF m 34 #[.val (.int p1), .val (.int p2), .val (.int p3), .val (.int v3_23), .val (.int t0_23), .unset, .unset, .unset, .unset, .unset, .unset] [(.int p1)])
      refine Goes.step (fun _ k => X.ldcInt hx hown (mvT hZ (hw _ (List.mem_of_getElem? (i := 0) rfl))) (g := (mkF m 34 #[.val (.int p1), .val (.int p2), .val (.int p3), .val (.int v3_23), .val (.int t0_23), .unset, .unset, .unset, .unset, .unset, .unset] [(.int p1)])) rfl (hb hby at_34) _ k) ?_
      show Goes p e below s _ _ _ T (mkF m 36 #[.val (.int p1), .val (.int p2), .val (.int p3), .val (.int v3_23), .val (.int t0_23), .unset, .unset, .unset, .unset, .unset, .unset] [(.int (2147483647 : Int32)), (.int p1)])
      refine Goes.step (fun _ k => XS.iand X.here hx rfl (hb hby at_36) rfl k) ?_
      show Goes p e below s _ _ _ T (mkF m 37 #[.val (.int p1), .val (.int p2), .val (.int p3), .val (.int v3_23), .val (.int t0_23), .unset, .unset, .unset, .unset, .unset, .unset] [(.int (p1 &&& (2147483647 : Int32)))])
      exact B37 T X eT v3_23 t0_23 (p1 &&& (2147483647 : Int32))
    · refine Goes.step (fun _ k => XS.ifNo X.here hx rfl (hb hby at_26) rfl ((if0 _ _).trans (feq hc26).1) k) ?_
      show Goes p e below s _ _ _ T (mkF m 29 #[.val (.int p1), .val (.int p2), .val (.int p3), .val (.int v3_23), .val (.int t0_23), .unset, .unset, .unset, .unset, .unset, .unset] [])
      refine Goes.step (fun _ k => XS.iconst X.here hx rfl (hb hby at_29) k) ?_
      show Goes p e below s _ _ _ T (mkF m 30 #[.val (.int p1), .val (.int p2), .val (.int p3), .val (.int v3_23), .val (.int t0_23), .unset, .unset, .unset, .unset, .unset, .unset] [(.int (-1 : Int32))])
      refine Goes.step (fun _ k => XS.goto X.here hx rfl (pc0 := 30) (pc' := 37) rfl (hb hby at_30) (by decide) (by decide) k) ?_
      show Goes p e below s _ _ _ T (mkF m 37 #[.val (.int p1), .val (.int p2), .val (.int p3), .val (.int v3_23), .val (.int t0_23), .unset, .unset, .unset, .unset, .unset, .unset] [(.int (-1 : Int32))])
      exact B37 T X eT v3_23 t0_23 (-1 : Int32)
  have B11 : ∀ (T : State), Stand p l e room_1 s m #[(.int p1), (.int p2), (.int p3)] below meth c T [] 0 0 → T.heap = h0 → ∀ (t0_11 : Int32), Goes p e below s room_1.cells room_1.slots (PI h0 (f0_11 p1 p2 p3 t0_11)) T (mkF m 11 #[.val (.int p1), .val (.int p2), .val (.int p3), .unset, .unset, .unset, .unset, .unset, .unset, .unset, .unset] [(.int t0_11)]) := by
    intro T X eT t0_11
    refine Goes.step (fun _ k => XS.istoreN X.here hx rfl (hb hby at_11) rfl (l' := #[.val (.int p1), .val (.int p2), .val (.int p3), .val (.int t0_11), .unset, .unset, .unset, .unset, .unset, .unset, .unset]) rfl k) ?_
    show Goes p e below s _ _ _ T (mkF m 12 #[.val (.int p1), .val (.int p2), .val (.int p3), .val (.int t0_11), .unset, .unset, .unset, .unset, .unset, .unset, .unset] [])
    refine Goes.step (fun _ k => XS.iloadN X.here hx rfl (hb hby at_12) rfl k) ?_
    show Goes p e below s _ _ _ T (mkF m 13 #[.val (.int p1), .val (.int p2), .val (.int p3), .val (.int t0_11), .unset, .unset, .unset, .unset, .unset, .unset, .unset] [(.int p3)])
    refine Goes.step (fun _ k => XS.iconst X.here hx rfl (hb hby at_13) k) ?_
    show Goes p e below s _ _ _ T (mkF m 14 #[.val (.int p1), .val (.int p2), .val (.int p3), .val (.int t0_11), .unset, .unset, .unset, .unset, .unset, .unset, .unset] [(.int (2 : Int32)), (.int p3)])
    refine Goes.step (fun _ k => XS.iand X.here hx rfl (hb hby at_14) rfl k) ?_
    show Goes p e below s _ _ _ T (mkF m 15 #[.val (.int p1), .val (.int p2), .val (.int p3), .val (.int t0_11), .unset, .unset, .unset, .unset, .unset, .unset, .unset] [(.int (p3 &&& (2 : Int32)))])
    refine Goes.ite (Q := PI h0) (fun hc15 => ?_) (fun hc15 => ?_)
    · refine Goes.step (fun _ k => XS.ifYes X.here hx rfl (pc0 := 15) (pc' := 22) rfl (hb hby at_15) rfl ((if0 _ _).trans (teq hc15).1) (by decide) (by decide) k) ?_
      show Goes p e below s _ _ _ T (mkF m 22 #[.val (.int p1), .val (.int p2), .val (.int p3), .val (.int t0_11), .unset, .unset, .unset, .unset, .unset, .unset, .unset] [])
      refine Goes.step (fun _ k => XS.iconst X.here hx rfl (hb hby at_22) k) ?_
      show Goes p e below s _ _ _ T (mkF m 23 #[.val (.int p1), .val (.int p2), .val (.int p3), .val (.int t0_11), .unset, .unset, .unset, .unset, .unset, .unset, .unset] [(.int (0 : Int32))])
      exact B23 T X eT t0_11 (0 : Int32)
    · refine Goes.step (fun _ k => XS.ifNo X.here hx rfl (hb hby at_15) rfl ((if0 _ _).trans (feq hc15).1) k) ?_
      show Goes p e below s _ _ _ T (mkF m 18 #[.val (.int p1), .val (.int p2), .val (.int p3), .val (.int t0_11), .unset, .unset, .unset, .unset, .unset, .unset, .unset] [])
      refine Goes.step (fun _ k => XS.iconst X.here hx rfl (hb hby at_18) k) ?_
      show Goes p e below s _ _ _ T (mkF m 19 #[.val (.int p1), .val (.int p2), .val (.int p3), .val (.int t0_11), .unset, .unset, .unset, .unset, .unset, .unset, .unset] [(.int (1 : Int32))])
      refine Goes.step (fun _ k => XS.goto X.here hx rfl (pc0 := 19) (pc' := 23) rfl (hb hby at_19) (by decide) (by decide) k) ?_
      show Goes p e below s _ _ _ T (mkF m 23 #[.val (.int p1), .val (.int p2), .val (.int p3), .val (.int t0_11), .unset, .unset, .unset, .unset, .unset, .unset, .unset] [(.int (1 : Int32))])
      exact B23 T X eT t0_11 (1 : Int32)
  show Goes p e below s room_1.cells room_1.slots (PI h0 (f0 p1 p2 p3)) s₁ (entryFrame m #[(.int p1), (.int p2), (.int p3)] maxLocals)
  refine Goes.step (fun t k => castTop (ef_0 m p1 p2 p3) k) ?_
  refine Goes.step (fun _ k => XS.iloadN X0.here hx rfl (hb hby at_0) rfl k) ?_
  show Goes p e below s _ _ _ s₁ (mkF m 1 #[.val (.int p1), .val (.int p2), .val (.int p3), .unset, .unset, .unset, .unset, .unset, .unset, .unset, .unset] [(.int p3)])
  refine Goes.step (fun _ k => XS.iconst X0.here hx rfl (hb hby at_1) k) ?_
  show Goes p e below s _ _ _ s₁ (mkF m 2 #[.val (.int p1), .val (.int p2), .val (.int p3), .unset, .unset, .unset, .unset, .unset, .unset, .unset, .unset] [(.int (1 : Int32)), (.int p3)])
  refine Goes.step (fun _ k => XS.iand X0.here hx rfl (hb hby at_2) rfl k) ?_
  show Goes p e below s _ _ _ s₁ (mkF m 3 #[.val (.int p1), .val (.int p2), .val (.int p3), .unset, .unset, .unset, .unset, .unset, .unset, .unset, .unset] [(.int (p3 &&& (1 : Int32)))])
  refine Goes.ite (Q := PI h0) (fun hc3 => ?_) (fun hc3 => ?_)
  · refine Goes.step (fun _ k => XS.ifYes X0.here hx rfl (pc0 := 3) (pc' := 10) rfl (hb hby at_3) rfl ((if0 _ _).trans (teq hc3).1) (by decide) (by decide) k) ?_
    show Goes p e below s _ _ _ s₁ (mkF m 10 #[.val (.int p1), .val (.int p2), .val (.int p3), .unset, .unset, .unset, .unset, .unset, .unset, .unset, .unset] [])
    refine Goes.step (fun _ k => XS.iconst X0.here hx rfl (hb hby at_10) k) ?_
    show Goes p e below s _ _ _ s₁ (mkF m 11 #[.val (.int p1), .val (.int p2), .val (.int p3), .unset, .unset, .unset, .unset, .unset, .unset, .unset, .unset] [(.int (0 : Int32))])
    exact B11 s₁ X0 e0 (0 : Int32)
  · refine Goes.step (fun _ k => XS.ifNo X0.here hx rfl (hb hby at_3) rfl ((if0 _ _).trans (feq hc3).1) k) ?_
    show Goes p e below s _ _ _ s₁ (mkF m 6 #[.val (.int p1), .val (.int p2), .val (.int p3), .unset, .unset, .unset, .unset, .unset, .unset, .unset, .unset] [])
    refine Goes.step (fun _ k => XS.iconst X0.here hx rfl (hb hby at_6) k) ?_
    show Goes p e below s _ _ _ s₁ (mkF m 7 #[.val (.int p1), .val (.int p2), .val (.int p3), .unset, .unset, .unset, .unset, .unset, .unset, .unset, .unset] [(.int (1 : Int32))])
    refine Goes.step (fun _ k => XS.goto X0.here hx rfl (pc0 := 7) (pc' := 11) rfl (hb hby at_7) (by decide) (by decide) k) ?_
    show Goes p e below s _ _ _ s₁ (mkF m 11 #[.val (.int p1), .val (.int p2), .val (.int p3), .unset, .unset, .unset, .unset, .unset, .unset, .unset, .unset] [(.int (1 : Int32))])
    exact B11 s₁ X0 e0 (1 : Int32)
theorem own_all (x y : Int32) (a b : Bool) (hx : x ≠ -1) (hy : y ≠ -1) (p1 p2 p3 : Int32) : f0_23 p1 p2 p3 (if a then 1 else 0) (if b then 1 else 0) = f0_23 p1 p2 p3 (if a then 1 else 0) (if b then 1 else 0) := rfl
theorem own_self (x : Int32) : f1 x x = 0 := by
  simp only [f1, f1_19, Int32.lt_irrefl, if_false, ite_self]
theorem own_m1 (x : Int32) : f1 (-1) x = 0 ∧ f1 x (-1) = 0 := by
  simp only [f1, f1_19, if_true, ite_self, and_self]
theorem own_ne (x : Int32) : x &&& 2147483647 ≠ -1 := by
  intro h
  have e : (x &&& 2147483647).toInt = x.toInt % (2 ^ 31 : Nat) := c_mask x 2147483647 31 (by decide) (by decide)
  rw [h] at e
  have : (-1 : Int32).toInt = -1 := rfl
  omega
theorem own_law (p1 p2 p3 : Int32) : f0 p1 p2 p3 = 1 := by
  simp only [f0, f0_11, f0_23, f0_37, f0_52, f0_74, f0_75, f0_121, f0_130, own_self, own_m1, if_true]
  have hx := own_ne p1
  have hy := own_ne p2
  generalize p1 &&& 2147483647 = u at *
  generalize p2 &&& 2147483647 = v at *
  generalize p3 &&& 1 = a
  generalize p3 &&& 2 = b
  by_cases ha : a = 0 <;> by_cases hb : b = 0 <;> simp [ha, hb]
  by_cases h1 : v < u
  · have h2 : ¬ u < v := Int32.lt_asymm h1
    simp [h1, h2, f1, f1_19, hx, hy]
  · by_cases h2 : u < v <;> simp [h1, h2, f1, f1_19, hx, hy]
set_option maxRecDepth 65536 in
set_option maxHeartbeats 40000000 in
theorem comes_1 {Post : Tables → Env → Array Value → State → Outcome → State → Prop} (hpost : ∀ tb e args s v u, (limb_1_1.after args s (.returned v) u = true ∧ limb_1_2.after args s (.returned v) u = true ∧ True) → FrameEnd s (.returned v) u (Jvm.fieldLocs frame_1_writes args s ++ Jvm.arrayLocs frame_1_arrays args s ++ Jvm.staticLocs frame_1_statics s) 0 0 → Post tb e args s (.returned v) u) :
    ArmFor flags0 classFile x code maxLocals ret World_1 tables_1 room_1 Calls_1 rest_1 Pre_1 Post := by
  intro l hfl _ _ p e ha hc hk s m args below hf hA hF happ hP
  obtain ⟨hcalls, hrest, hpre⟩ := hP
  obtain ⟨-, -, -, hnamed, -, -, -, hat⟩ := (Spec.applies_iff hf).mp happ
  obtain ⟨hg, hn⟩ := and_e (Cond.before_iff.mp (show (Jvm.Cond.and given_1 narrow_1).before args s = true from hpre))
  obtain ⟨hcnt, g0⟩ := and_e hg
  obtain ⟨i0, g1⟩ := and_e g0
  obtain ⟨i1, g2⟩ := and_e g1
  have i2 := g2
  obtain ⟨w0, w1, w2, rfl⟩ : ∃ w0 w1 w2 : Value, args = #[w0, w1, w2] := by
    have hs : args.size = 3 := by simpa [Cond.value, given_1] using hcnt
    obtain ⟨L⟩ := args
    match L, hs with
    | [w0, w1, w2], _ => exact ⟨w0, w1, w2, rfl⟩
  have hw := fun d (hd : d ∈ tables_1) => atoms_spec (ws := Jvm.Cond.code x code maxLocals ret :: tables_1) hat d (List.mem_cons_of_mem _ hd)
  obtain ⟨z0, e0⟩ := is_v i0
  obtain rfl : w0 = (.int z0) := Option.some.inj e0
  obtain ⟨z1, e1⟩ := is_v i1
  obtain rfl : w1 = (.int z1) := Option.some.inj e1
  obtain ⟨z2, e2⟩ := is_v i2
  obtain rfl : w2 = (.int z2) := Option.some.inj e2
  obtain ⟨n, o, h1, h2, h3, v, L, rfl, ⟨rfl, rfl, hh⟩, hq⟩ := rm0 l s _ hw tables_1 z0 z1 z2  s.heap  p e ha hc hk s m _ below hf ((Spec.applies_iff_loose hf).mp happ).1 ⟨rfl, State.Warmed39.refl s, rfl⟩ trivial
  have hlaw := own_law z0 z1 z2 
  refine ⟨n, _, h1, h2, h3, hpost _ _ _ _ _ _ ⟨Cond.after_iff.mpr rfl, Cond.after_iff.mpr (eq_i res_at (Term.int_eval (1)) (by rw [hlaw])), trivial⟩ ⟨hq.1, hq.2.1, (hq.2.2.sift fun y hy => by cases hy).mono (by decide) (by decide)⟩⟩
theorem main_1_1 : Claimed_1_1 := comes_1 fun _ _ _ _ _ _ h hF => ⟨h.1, hF⟩
theorem main_1_2 : Claimed_1_2 := comes_1 fun _ _ _ _ _ _ h hF => ⟨h.2.1, hF⟩
end Jvm.Pilot.@@N@@
namespace Jvm.Pilot.@@N@@
open Jvm Jvm.ClassFile Sem Op Lib Jvm.Free Jvm.Stand Jvm.Pilot.@@N@@.Jvm.D
/-! MADE BY PROGRAM (witnessworld.py) out of the Statement's table words and the real class files: 7 classes; the members and pool entries that the words name. The judged class is class 1, her method 1. -/
namespace start1
open Jvm.ClassFile
def u (s : String) : CpInfo := .utf8 (stringToUtf16 s)
/-- a pool by its gaps: so many unusable entries, then the entry; so many at the end -/
def gap : Nat → List CpInfo → List CpInfo
  | 0, r => r
  | n + 1, r => .unusable :: gap n r
def poolList (es : List (Nat × CpInfo)) (last : Nat) : List CpInfo := es.foldr (fun e r => gap e.1 (e.2 :: r)) (gap last [])
def pool (es : List (Nat × CpInfo)) (last : Nat) : Array CpInfo := ⟨poolList es last⟩
def fileOf (pool : Array CpInfo) (this : Nat) (attrs : Array Attribute := #[]) (ms : Array MethodInfo := #[]) (fl : Nat := 33) (sup : Nat := 0) (ifs : Array Nat := #[]) (fds : Array FieldInfo := #[]) : ClassFile where
  minorVersion := 0
  majorVersion := 65
  constantPool := pool
  accessFlags := fl
  thisClass := this
  superClass := sup
  interfaces := ifs
  fields := fds
  methods := ms
  attributes := attrs
def plain (name : String) (sup : Option ClassId) : Class where
  name := name
  kind := .ordinary
  loader := none
  accessFlags := 33
  super := sup
  interfaces := #[]
  cf := none
  fields := #[]
  methods := #[]
  instanceTypes := #[]
  staticTypes := #[]
  resolved := #[]
  callSites := []
  init := .initialized
  statics := none
  mirror := none

def pool0 : Array CpInfo := pool [(5, u "<init>"), (0, u "()V"), (1, .class_ 10), (1, u "java/lang/Object")] 113

def k0m0 : Method := { name := "<init>", desc := "()V", sig := { parameters := [], returnType := none }, accessFlags := 1, code := none }
/-- java/lang/Object -/
def k0 : Class := { plain "java/lang/Object" none with
  accessFlags := 33
  interfaces := #[]
  cf := some (fileOf pool0 8 #[] #[{ accessFlags := 1, nameIndex := 5, descriptorIndex := 6, attributes := #[] }] 33 0 #[] #[])
  fields := #[]
  methods := #[k0m0]
  instanceTypes := #[]
  staticTypes := #[]
  resolved := Array.replicate 124 none
  statics := none }

def pool1 : Array CpInfo := pool [(2, .class_ 4), (1, u "java/lang/Object"), (0, u "<init>"), (0, u "()V"), (0, .class_ 8), (0, u "com/example/decompose/decompose/model/verify/NetworkOrder"), (0, .integer 2147483647), (0, .methodref 7 11), (0, .nameAndType 12 13), (0, u "breaks"), (0, u "(II)Z"), (0, .class_ 15), (0, u "com/example/decompose/decompose/model/verify/NetworkOrderBreaksPinLaw"), (2, u "law"), (0, u "(III)Z")] 3

def k1m0 : Method := { name := "<init>", desc := "()V", sig := { parameters := [], returnType := none }, accessFlags := 1, code := none }
def k1c1 : Code := { maxStack := 2, maxLocals := 11, code := code, exceptionTable := #[], attributes := #[] }
def k1m1 : Method := { name := "law", desc := "(III)Z", sig := { parameters := [.int, .int, .int], returnType := some .boolean }, accessFlags := 9, code := some k1c1 }
/-- com/example/decompose/decompose/model/verify/NetworkOrderBreaksPinLaw -/
def k1 : Class := { plain "com/example/decompose/decompose/model/verify/NetworkOrderBreaksPinLaw" (some 0) with
  accessFlags := 49
  interfaces := #[]
  cf := some (fileOf pool1 14 #[] #[{ accessFlags := 1, nameIndex := 5, descriptorIndex := 6, attributes := #[] }, { accessFlags := 9, nameIndex := 18, descriptorIndex := 19, attributes := #[] }] 49 2 #[] #[])
  fields := #[]
  methods := #[k1m0, k1m1]
  instanceTypes := #[]
  staticTypes := #[]
  resolved := Array.replicate 23 none
  statics := none }

def pool2 : Array CpInfo := pool [(2, .class_ 4), (1, u "java/lang/Object"), (6, u "precedence"), (2, .class_ 16), (1, u "com/example/decompose/decompose/model/verify/NetworkOrder"), (0, u "Lcom/example/decompose/decompose/model/lifted/Precedence;"), (16, u "(II)Z"), (6, u "breaks"), (18, u "NO_STEP"), (0, u "I")] 19

def k2c0 : Code := { maxStack := 2, maxLocals := 2, code := prog_108_method_8_code, exceptionTable := #[], attributes := #[] }
def k2m0 : Method := { name := "breaks", desc := "(II)Z", sig := { parameters := [.int, .int], returnType := some .boolean }, accessFlags := 8, code := some k2c0 }
/-- com/example/decompose/decompose/model/verify/NetworkOrder -/
def k2 : Class := { plain "com/example/decompose/decompose/model/verify/NetworkOrder" (some 0) with
  accessFlags := 48
  interfaces := #[]
  cf := some (fileOf pool2 14 #[] #[{ accessFlags := 8, nameIndex := 41, descriptorIndex := 34, attributes := #[] }] 48 2 #[] #[{ accessFlags := 24, nameIndex := 60, descriptorIndex := 61, attributes := #[] }, { accessFlags := 18, nameIndex := 11, descriptorIndex := 17, attributes := #[] }])
  fields := #[{ name := "NO_STEP", type := .int, accessFlags := 24, slot := 0, constantValue := 0 }, { name := "precedence", type := (.object "com/example/decompose/decompose/model/lifted/Precedence"), accessFlags := 18, slot := 0, constantValue := 0 }]
  methods := #[k2m0]
  instanceTypes := #[(.object "com/example/decompose/decompose/model/lifted/Precedence")]
  staticTypes := #[.int]
  resolved := Array.replicate 81 none
  statics := none }

def pool3 : Array CpInfo := pool [(1, u "java/lang/Cloneable"), (0, .class_ 1), (0, u "java/lang/Object"), (0, .class_ 3)] 3

/-- java/lang/Cloneable -/
def k3 : Class := { plain "java/lang/Cloneable" (some 0) with
  accessFlags := 1537
  interfaces := #[]
  cf := some (fileOf pool3 2 #[] #[] 1537 4 #[] #[])
  fields := #[]
  methods := #[]
  instanceTypes := #[]
  staticTypes := #[]
  resolved := Array.replicate 8 none
  statics := none }

def pool4 : Array CpInfo := pool [(1, u "java/io/Serializable"), (0, .class_ 1), (0, u "java/lang/Object"), (0, .class_ 3)] 3

/-- java/io/Serializable -/
def k4 : Class := { plain "java/io/Serializable" (some 0) with
  accessFlags := 1537
  interfaces := #[]
  cf := some (fileOf pool4 2 #[] #[] 1537 4 #[] #[])
  fields := #[]
  methods := #[]
  instanceTypes := #[]
  staticTypes := #[]
  resolved := Array.replicate 8 none
  statics := none }

/-- the primitive byte -/
def k5 : Class := { plain "byte" none with kind := .primitive 'B', accessFlags := 0x411 }
/-- [B -/
def k6 : Class := { plain "[B" (some 0) with kind := .array 5 .byte, interfaces := #[3, 4], accessFlags := 1041 }

def heap : Heap := #[]
def classes : Array Class := #[k0, k1, k2, k3, k4, k5, k6]
def interned : List (Array UInt16 × Addr) := []
def slotsUsed : Nat := 0
def theMethod : MethodId := ⟨1, 1⟩
def args0 : Array Value := #[.int 9, .int 5, .int 0]
def aboutOver (below : List Frame) : State where
  vm := { classes := classes, interned := interned.toArray }
  heap := heap
  slotsUsed := slotsUsed
  threads := #[{ frames := .invoking theMethod args0 :: below }]
def below0 : List Frame := [.native { method := ⟨0, 0⟩, args := #[] }]
def about1 : State := aboutOver below0
def p0 : Program := .bare "" "" ""
def e0 : Env := launch0.env 0 0 0
theorem w_frames : about1.frames = Frame.invoking theMethod args0 :: below0 := rfl
set_option maxRecDepth 65536 in
theorem w_args : argsFit about1.vm theMethod args0 = true := by decide +kernel
set_option maxRecDepth 65536 in
theorem w_heap : heapFits about1 = true := by decide +kernel
set_option maxRecDepth 65536 in
theorem w_runnable : about1.curStatus? = some .runnable := by decide +kernel
set_option maxRecDepth 65536 in
theorem w_alone : about1.alone = true := by decide +kernel
set_option maxRecDepth 65536 in
theorem w_named : about1.methodNamed? x = some theMethod := by decide +kernel
set_option maxRecDepth 65536 in
theorem w_hears : about1.hears theMethod below0 = true := by decide +kernel
set_option maxRecDepth 65536 in
theorem w_ripe : about1.ripe theMethod args0 below0 = true := by decide +kernel
theorem w_running : about1.status = .running := rfl
set_option maxRecDepth 65536 in
theorem w_room : about1.hasRoom e0.platform room_1 = true :=
  launch0.hasRoom_least _ room_1 (by decide +kernel) (by decide +kernel) (by decide +kernel) (by decide +kernel) (by decide +kernel) (by decide +kernel)
theorem allAtoms_all (ts : List Jvm.Cond) (a : Array Jvm.Value) (st : Jvm.State) : (allAtoms ts).before a st = ts.all (fun c => c.before a st) := by
  induction ts with
  | nil => rfl
  | cons c t ih =>
    show (Jvm.Cond.and c (allAtoms t)).before a st = _
    rw [Jvm.Cond.before_and, ih, List.all_cons]
def words1 : List Jvm.Cond := Jvm.Cond.code x code maxLocals ret :: tables_1
/-- a 'code' word, met by the world's own term for the bytes: nothing is compared byte by byte -/
theorem code_word {y : MethodName} {bytes : ByteArray} {mx : Nat} {rt : Option FieldType} {a : Array Value} {s : State} {m : MethodId} {meth : Method} {c : Code} (h1 : s.methodNamed? y = some m) (h2 : s.vm.method? m = some meth) (h3 : meth.code = some c) (h4 : c.code = bytes)
    (h5 : (c.maxLocals == mx && c.exceptionTable.isEmpty && decide (c.maxStack ≤ mostOperands) && decide (meth.sig.returnType = rt) && !meth.locks && decide (parseMethodDescriptor y.desc = some meth.sig)) = true) : (Jvm.Cond.code y bytes mx rt).before a s = true := by
  simp only [Bool.and_eq_true, beq_iff_eq, Bool.not_eq_true', decide_eq_true_eq] at h5
  obtain ⟨⟨⟨⟨⟨g1, g2⟩, g3⟩, g4⟩, g5⟩, g6⟩ := h5
  simp [Cond.before, Cond.holds, Cond.value, h1, h2, h3, h4, g1, g2, g3, g4, g5, g6]
def isCode : Jvm.Cond → Bool
  | .code _ _ _ _ => true
  | _ => false
theorem all_split {L : List Jvm.Cond} {P : Jvm.Cond → Bool} (h1 : L.all (fun c => isCode c || P c) = true) (h2 : ∀ c ∈ L.filter isCode, P c = true) : L.all P = true := by
  refine List.all_eq_true.mpr fun c hc => ?_
  have h := List.all_eq_true.mp h1 c hc
  rcases Bool.eq_false_or_eq_true (isCode c) with hi | hi
  · exact h2 c (List.mem_filter.mpr ⟨hc, hi⟩)
  · simpa [hi] using h
set_option maxRecDepth 65536 in
theorem w_c0 : (Jvm.Cond.code x code maxLocals ret).before args0 about1 = true := code_word (m := ⟨1, 1⟩) (meth := k1m1) (c := k1c1) (by decide +kernel) rfl rfl rfl (by decide +kernel)
set_option maxRecDepth 65536 in
theorem w_c1 : (Jvm.Cond.code ({ cls := "com/example/decompose/decompose/model/verify/NetworkOrder", name := "breaks", desc := "(II)Z" } : Jvm.MethodName) prog_108_method_8_code (2 : Nat) (Option.some Jvm.ClassFile.FieldType.boolean)).before args0 about1 = true := code_word (m := ⟨2, 0⟩) (meth := k2m0) (c := k2c0) (by decide +kernel) rfl rfl rfl (by decide +kernel)
def codes1 : List Jvm.Cond := [Jvm.Cond.code x code maxLocals ret, Jvm.Cond.code ({ cls := "com/example/decompose/decompose/model/verify/NetworkOrder", name := "breaks", desc := "(II)Z" } : Jvm.MethodName) prog_108_method_8_code (2 : Nat) (Option.some Jvm.ClassFile.FieldType.boolean)]
set_option maxRecDepth 65536 in
theorem codes_eq : words1.filter isCode = codes1 := rfl
theorem w_codes : ∀ c ∈ words1.filter isCode, c.before args0 about1 = true := by
  rw [codes_eq]
  intro c hc
  simp only [codes1, List.mem_cons, List.not_mem_nil, or_false] at hc
  rcases hc with rfl | rfl
  · exact w_c0
  · exact w_c1
set_option maxRecDepth 65536 in
theorem w_t1 : words1.all (fun c => isCode c || c.before args0 about1) = true := by decide +kernel
theorem w_tables : (allAtoms (Jvm.Cond.code x code maxLocals ret :: tables_1)).before args0 about1 = true := by
  rw [allAtoms_all]
  show words1.all (fun c => c.before args0 about1) = true
  refine all_split ?_ w_codes
  rw [w_t1]
set_option maxRecDepth 65536 in
theorem w_case : (Jvm.Cond.and given_1 narrow_1).before args0 about1 = true := by decide +kernel
theorem w_applies : (headSpec (Jvm.Cond.code x code maxLocals ret :: tables_1) room_1).applies x e0.platform about1 = true :=
  (Spec.applies_iff w_frames).mpr ⟨w_running, w_runnable, w_alone, w_named, w_hears, w_ripe, w_room, w_tables⟩
theorem atStart : AtStart classFile x code maxLocals ret World_1 tables_1 room_1 Calls_1 rest_1 Pre_1 launch0 p0 e0 about1 theMethod args0 below0 :=
  ⟨lists_1, trivial, launch0.admits_env _ _ _, launch0.least_env, fairChoices_fair.cas, fairChoices_fair.clock, w_frames, w_args, w_heap, w_applies, trivial, trivial, w_case⟩
end start1
theorem witness_1 : WitnessClaimed_1 := ⟨start1.p0, start1.e0, start1.about1, start1.theMethod, start1.args0, start1.below0, start1.atStart⟩
end Jvm.Pilot.@@N@@
