import JvmDerived
import JvmDerived.Pilot.@@N@@Statement
import JvmDerived.Pilot.@@N@@Code
set_option linter.unusedVariables false
set_option linter.unusedSimpArgs false
namespace Jvm.RoadKit
open Sem ClassFile Op Lib Jvm.Stand Jvm.Free Jvm.LawKit
section Own
variable {p : Program} {l : Launch} {e : Env} {R : Room} {s : State} {m : MethodId} {args : Array Value} {below : List Frame} {meth : Method} {c : Code} {T : State} {locs : List Loc} {cells slots : Nat} {Z : State} {a0 : Array Value} {h : Heap}
/-- what is left of a body: from the frame g on it ends, and Q holds of what it returns, the heap and the places written -/
def Goes (p : Program) (e : Env) (below : List Frame) (s : State) (K N : Nat) (Q : Option Value → Heap → List Loc → Prop) (T : State) (g : JFrame) : Prop :=
  ∃ s₂ o, Steps p.tables e below (T.setTop g) s₂ ∧ s₂.status = .running ∧ Ended s₂ below o ∧ ∃ v L, o = .returned v ∧ Q v s₂.heap L ∧ FrameEnd s o s₂ L K N
theorem Goes.step {K N : Nat} {Q : Option Value → Heap → List Loc → Prop} {T' : State} {g g' : JFrame} (k : ∀ t, Steps p.tables e below (T'.setTop g') t → Steps p.tables e below (T.setTop g) t) (h : Goes p e below s K N Q T' g') : Goes p e below s K N Q T g := by
  obtain ⟨s₂, o, h1, h2⟩ := h
  exact ⟨s₂, o, k _ h1, h2⟩
theorem Goes.jump {K N : Nat} {Q : Option Value → Heap → List Loc → Prop} {T' : State} {g g' : JFrame} (k : Steps p.tables e below (T.setTop g) (T'.setTop g')) (h : Goes p e below s K N Q T' g') : Goes p e below s K N Q T g :=
  Goes.step (fun _ q => k.trans q) h
theorem Goes.ite {K N : Nat} {α : Type} {Q : α → Option Value → Heap → List Loc → Prop} {g : JFrame} {a b : α} {d : Prop} [Decidable d] (h1 : d → Goes p e below s K N (Q a) T g) (h2 : ¬ d → Goes p e below s K N (Q b) T g) : Goes p e below s K N (Q (if d then a else b)) T g := by
  split
  · next q => exact h1 q
  · next q => exact h2 q
theorem Goes.imp {K N : Nat} {Q Q' : Option Value → Heap → List Loc → Prop} {g : JFrame} (q : ∀ v h L, Q v h L → Q' v h L) (h : Goes p e below s K N Q T g) : Goes p e below s K N Q' T g := by
  obtain ⟨s₂, o, h1, h2, h3, v, L, h4, h5, h6⟩ := h
  exact ⟨s₂, o, h1, h2, h3, v, L, h4, q _ _ _ h5, h6⟩
theorem retI (X : Stand p l e R s m args below meth c T locs cells slots) (hx : p.tables.exec = Jvm.exec) {pc : Nat} {Ls : Array Slot} {z : Int32} {rest : List Value} (hret : meth.sig.returnType = some .int) (hd : decode c.code pc = .ok (.ireturn, 1)) {fs : List Frame}
    (hl : ∀ (f : JFrame) (acts : List Action), f.method = m → f.locked = none → f.entered = [] → (doReturn e (T.setTop f) acts (some (.int z))).1 = T.setFrames fs) : Steps p.tables e below (T.setTop (mkF m pc Ls (.int z :: rest))) (T.setFrames fs) := by
  have hm' : T.vm.method? m = some meth := X.method'
  have hn : narrow .int (.int z) = .int z := rfl
  show Steps p.tables e below (T.setTop { method := m, pc := pc, locals := Ls, stack := _ :: rest, locked := none }) _
  jvm_step X.here [X.here.top, hx, hd, hm', hret, hn]
  first | (intro acts; rw [hl _ acts rfl rfl rfl]) | rw [hl _ _ rfl rfl rfl]
  exact Steps.refl _
theorem retJ (X : Stand p l e R s m args below meth c T locs cells slots) (hx : p.tables.exec = Jvm.exec) {pc : Nat} {Ls : Array Slot} {z : Int64} {rest : List Value} (hret : meth.sig.returnType = some .long) (hd : decode c.code pc = .ok (.lreturn, 1)) {fs : List Frame}
    (hl : ∀ (f : JFrame) (acts : List Action), f.method = m → f.locked = none → f.entered = [] → (doReturn e (T.setTop f) acts (some (.long z))).1 = T.setFrames fs) : Steps p.tables e below (T.setTop (mkF m pc Ls (.long z :: rest))) (T.setFrames fs) :=
  retOut X hx hret rfl (Or.inr (Or.inl ⟨rfl, rfl, z, rfl⟩)) hd hl
theorem Goes.outI (X : Stand p l e R s m args below meth c T locs cells slots) (hx : p.tables.exec = Jvm.exec) (hlk : meth.locks = false) (hret : meth.sig.returnType = some .int) {pc : Nat} (hd : decode c.code pc = .ok (.ireturn, 1)) {Ls : Array Slot} {z : Int32} {rest : List Value} {K N : Nat} {Q : Option Value → Heap → List Loc → Prop}
    (hq : Q (some (.int z)) T.heap locs) (hk : cells ≤ K) (hn : slots ≤ N) : Goes p e below s K N Q T (mkF m pc Ls (.int z :: rest)) := by
  obtain ⟨fs, hr, hrun, hended, hW, hsame⟩ := X.leave (v := some (.int z)) (fun h => by rw [hret] at h; cases h) hlk
  exact ⟨_, _, retI X hx hret hd hr, hrun, hended, _, _, rfl, hq, ⟨_, rfl⟩, hW, hsame.mono hk hn⟩
theorem Goes.outJ (X : Stand p l e R s m args below meth c T locs cells slots) (hx : p.tables.exec = Jvm.exec) (hlk : meth.locks = false) (hret : meth.sig.returnType = some .long) {pc : Nat} (hd : decode c.code pc = .ok (.lreturn, 1)) {Ls : Array Slot} {z : Int64} {rest : List Value} {K N : Nat} {Q : Option Value → Heap → List Loc → Prop}
    (hq : Q (some (.long z)) T.heap locs) (hk : cells ≤ K) (hn : slots ≤ N) : Goes p e below s K N Q T (mkF m pc Ls (.long z :: rest)) := by
  obtain ⟨fs, hr, hrun, hended, hW, hsame⟩ := X.leave (v := some (.long z)) (fun h => by rw [hret] at h; cases h) hlk
  exact ⟨_, _, retJ X hx hret hd hr, hrun, hended, _, _, rfl, hq, ⟨_, rfl⟩, hW, hsame.mono hk hn⟩
theorem Goes.outN (X : Stand p l e R s m args below meth c T locs cells slots) (hx : p.tables.exec = Jvm.exec) (hlk : meth.locks = false) {t : FieldType} (hret : meth.sig.returnType = some t) (ht : t = .boolean ∨ t = .byte ∨ t = .char ∨ t = .short) {pc : Nat} (hd : decode c.code pc = .ok (.ireturn, 1)) {Ls : Array Slot} {z : Int32} {rest : List Value} {K N : Nat} {Q : Option Value → Heap → List Loc → Prop}
    (hq : Q (some (.int (nar t z))) T.heap locs) (hk : cells ≤ K) (hn : slots ≤ N) : Goes p e below s K N Q T (mkF m pc Ls (.int z :: rest)) := by
  obtain ⟨fs, hr, hrun, hended, hW, hsame⟩ := X.leave (v := some (.int (nar t z))) (fun h => by rw [hret] at h; cases h) hlk
  exact ⟨_, _, retN X hx hret ht hd hr, hrun, hended, _, _, rfl, hq, ⟨_, rfl⟩, hW, hsame.mono hk hn⟩
theorem Goes.outV (X : Stand p l e R s m args below meth c T locs cells slots) (hx : p.tables.exec = Jvm.exec) (hlk : meth.locks = false) (hret : meth.sig.returnType = none) {pc : Nat} (hd : decode c.code pc = .ok (.return_, 1)) {Ls : Array Slot} {K N : Nat} {Q : Option Value → Heap → List Loc → Prop}
    (hq : Q none T.heap locs) (hk : cells ≤ K) (hn : slots ≤ N) : Goes p e below s K N Q T (mkF m pc Ls []) := by
  obtain ⟨fs, hr, hrun, hended, hW, hsame⟩ := X.leave (v := none) (fun _ => rfl) hlk
  exact ⟨_, _, X.returnOut hx hret hd hr, hrun, hended, _, _, rfl, hq, ⟨_, rfl⟩, hW, hsame.mono hk hn⟩
theorem Goes.outR (X : Stand p l e R s m args below meth c T locs cells slots) (hx : p.tables.exec = Jvm.exec) (hlk : meth.locks = false) {t : FieldType} (hret : meth.sig.returnType = some t) (ht : t.isReference = true) {w : Value} (hw : w.isRef = true) {pc : Nat} (hd : decode c.code pc = .ok (.areturn, 1)) {Ls : Array Slot} {K N : Nat} {Q : Option Value → Heap → List Loc → Prop}
    (hq : Q (some w) T.heap locs) (hk : cells ≤ K) (hn : slots ≤ N) : Goes p e below s K N Q T (mkF m pc Ls [w]) := by
  obtain ⟨fs, hr, hrun, hended, hW, hsame⟩ := X.leave (v := some w) (fun h => by rw [hret] at h; cases h) hlk
  exact ⟨_, _, X.areturnOut hx hw hret ht hd hr, hrun, hended, _, _, rfl, hq, ⟨_, rfl⟩, hW, hsame.mono hk hn⟩
/-- a body that returns v and leaves the heap as it was -/
def PV (h0 : Heap) (r : Value) (v : Option Value) (h : Heap) (L : List Loc) : Prop := v = some r ∧ L = [] ∧ h = h0
def PI (h0 : Heap) (r : Int32) (v : Option Value) (h : Heap) (L : List Loc) : Prop := PV h0 (.int r) v h L
def PJ (h0 : Heap) (r : Int64) (v : Option Value) (h : Heap) (L : List Loc) : Prop := PV h0 (.long r) v h L
def PA (h0 : Heap) (r : Addr) (v : Option Value) (h : Heap) (L : List Loc) : Prop := PV h0 (.ref r) v h L
/-- a reference that may be null -/
def ov : Option Addr → Value
  | none => .null
  | some b => .ref b
def PO (h0 : Heap) (r : Option Addr) (v : Option Value) (h : Heap) (L : List Loc) : Prop := PV h0 (ov r) v h L
theorem ov_cat (o : Option Addr) : (ov o).category = 1 := by cases o <;> rfl
theorem ov_inj {a b : Option Addr} : (ov a = ov b) = (a = b) := by cases a <;> cases b <;> simp [ov]
theorem ov_ref (o : Option Addr) : (ov o).isRef = true := by cases o <;> rfl
/-- a virtual call of a body that leaves the heap as it was -/
theorem callPureV (X : Stand p l e R s m args below meth c T locs cells slots) (hx : p.tables.exec = Jvm.exec) (hZ : Z.Warmed39 s.vm) {own C : String} {index : Nat} {y z : MethodName} {bytes : ByteArray} {maxL : Nat} {ret : Option FieldType} (hown : s.vm.findClass own = some m.cls)
    (w1 : (Cond.methodLink own index y).before a0 Z = true) (w2 : (Cond.declares y).before a0 Z = true) (w3 : (Cond.selects C y z).before a0 Z = true) (w4 : (Cond.instanceMethod z).before a0 Z = true) (w5 : (Cond.code z bytes maxL ret).before a0 Z = true) (w6 : (Cond.initialized z.cls).before a0 Z = true) (hnf : NotFace s y) (hy : y.cls ≠ "java/lang/invoke/MethodHandle" ∧ y.cls ≠ "java/lang/invoke/VarHandle")
    {F W0 W : Nat} {b : Addr} {argsL rest : List Value} {r : Value} {Q : Option Value → Heap → List Loc → Prop} (hQ : ∀ v h' L, Q v h' L → PV h r v h' L)
    (hM : MetFree l z (head1 [Cond.code z bytes maxL ret] ({ frames := F, cells := 0, slots := 0, locals := W0 } : Room)) (fun a U => a = (.ref b :: argsL).toArray ∧ Z.Warmed39 U.vm ∧ U.heap = h) (fun _ _ _ _ _ => True) (fun _ U o U' => ∃ v L, o = .returned v ∧ Q v U'.heap L ∧ FrameEnd U o U' L ({ frames := F, cells := 0, slots := 0, locals := W0 } : Room).cells ({ frames := F, cells := 0, slots := 0, locals := W0 } : Room).slots))
    (hf : F + 1 ≤ R.frames) (hl : W + (maxL + 11) + W0 ≤ R.locals) (hc : cells ≤ R.cells) (hs : slots ≤ R.slots) (eT : T.heap = h) (E : Exa Z h b C) {g : JFrame} (hg : g.method = m) (hsize : g.locals.size = c.maxLocals) (hlen : ∀ sig, parseMethodDescriptor y.desc = some sig → argsL.length = sig.parameters.length)
    (hstack : g.stack = argsL.reverse ++ .ref b :: rest) (hW : 2 * g.monitorRoom + (rest.map fun v => v.category).sum ≤ W) (hd : decode c.code g.pc = .ok (.invokevirtual index, 3)) :
    ∃ T', Stand p l e R s m args below meth c T' locs cells slots ∧ T'.heap = h ∧ ∀ target, Steps p.tables e below (T'.setTop { g with pc := g.pc + 3, stack := r :: rest }) target → Steps p.tables e below (T.setTop g) target := by
  obtain ⟨cq, kq, qa, qb, qc⟩ := isOf hZ eT E
  obtain ⟨_, _, ⟨T18, L18, k18, n18⟩, -, X18, ⟨Lc, hq, l18, y18, z18⟩, st⟩ := X.virtualBack hx hown (mvT hZ w1) (mvT hZ w2) hnf (mvT hZ w3) (mvT hZ w4) hy (backOf (W := W) hM hZ w5 w6 hf hl) qa qc hg hsize (Steps.refl _) hlen hstack hW hd (fun _ _ => ⟨rfl, eT, hc, hs⟩)
  dsimp only [Pt.U, Pt.locs, Pt.cells, Pt.slots] at X18 l18 y18 z18 st hq
  subst l18 y18 z18
  obtain ⟨rfl, rfl, e18⟩ := hQ _ _ _ hq
  rw [List.append_nil] at X18
  exact ⟨T18, X18, e18, fun _ k => st.trans k⟩
/-- a static call of a body that leaves the heap as it was -/
theorem callPure (X : Stand p l e R s m args below meth c T locs cells slots) (hx : p.tables.exec = Jvm.exec) (hZ : Z.Warmed39 s.vm) {own : String} {index : Nat} {y : MethodName} {bytes : ByteArray} {maxL : Nat} {ret : Option FieldType} (hown : s.vm.findClass own = some m.cls)
    (w1 : (Cond.methodLink own index y).before a0 Z = true) (w2 : (Cond.static y).before a0 Z = true) (w3 : (Cond.initialized y.cls).before a0 Z = true) (w4 : (Cond.code y bytes maxL ret).before a0 Z = true) (hy : y.cls ≠ "java/lang/invoke/MethodHandle" ∧ y.cls ≠ "java/lang/invoke/VarHandle")
    {F W0 W : Nat} {argsL rest : List Value} {r : Value} {Q : Option Value → Heap → List Loc → Prop} (hQ : ∀ v h' L, Q v h' L → PV h r v h' L)
    (hM : MetFree l y (head1 [Cond.code y bytes maxL ret] ({ frames := F, cells := 0, slots := 0, locals := W0 } : Room)) (fun a U => a = argsL.toArray ∧ Z.Warmed39 U.vm ∧ U.heap = h) (fun _ _ _ _ _ => True) (fun _ U o U' => ∃ v L, o = .returned v ∧ Q v U'.heap L ∧ FrameEnd U o U' L ({ frames := F, cells := 0, slots := 0, locals := W0 } : Room).cells ({ frames := F, cells := 0, slots := 0, locals := W0 } : Room).slots))
    (hf : F + 1 ≤ R.frames) (hl : W + (maxL + 11) + W0 ≤ R.locals) (hc : cells ≤ R.cells) (hs : slots ≤ R.slots) (eT : T.heap = h) {g : JFrame} (hg : g.method = m) (hsize : g.locals.size = c.maxLocals) (hlen : ∀ sig, parseMethodDescriptor y.desc = some sig → argsL.length = sig.parameters.length)
    (hstack : g.stack = argsL.reverse ++ rest) (hW : 2 * g.monitorRoom + (rest.map fun v => v.category).sum ≤ W) (hd : decode c.code g.pc = .ok (.invokestatic index, 3)) :
    ∃ T', Stand p l e R s m args below meth c T' locs cells slots ∧ T'.heap = h ∧ ∀ target, Steps p.tables e below (T'.setTop { g with pc := g.pc + 3, stack := r :: rest }) target → Steps p.tables e below (T.setTop g) target := by
  obtain ⟨_, _, ⟨T18, L18, k18, n18⟩, -, X18, ⟨Lc, hq, l18, y18, z18⟩, st⟩ := Jvm.LawKit.callS X hx hown (mvT hZ w1) (mvT hZ w2) (mvT hZ w3) (mvT hZ w4) hy (backOf (W := W) hM hZ w4 w3 hf hl) hg hsize hlen hstack hW hd (fun _ _ => ⟨rfl, eT, hc, hs⟩)
  dsimp only [Pt.U, Pt.locs, Pt.cells, Pt.slots] at X18 l18 y18 z18 st hq
  subst l18 y18 z18
  obtain ⟨rfl, rfl, e18⟩ := hQ _ _ _ hq
  rw [List.append_nil] at X18
  exact ⟨T18, X18, e18, st⟩
end Own
end Jvm.RoadKit
namespace Jvm.Pilot.@@N@@
open Jvm Jvm.ClassFile Sem Op Lib Jvm.Free Jvm.Stand Jvm.LawKit Jvm.RoadKit Bundle Jvm.Pilot.@@N@@.Jvm.D
theorem d2_0 : decode jdk_29_method_70_code 0 = .ok (.lload_n 0, 1) := by decide +kernel
theorem d2_1 : decode jdk_29_method_70_code 1 = .ok (.lload_n 2, 1) := by decide +kernel
theorem d2_2 : decode jdk_29_method_70_code 2 = .ok (.lcmp, 1) := by decide +kernel
theorem d2_3 : decode jdk_29_method_70_code 3 = .ok (.ifCond .gt 7, 3) := by decide +kernel
theorem d2_6 : decode jdk_29_method_70_code 6 = .ok (.lload_n 0, 1) := by decide +kernel
theorem d2_7 : decode jdk_29_method_70_code 7 = .ok (.goto 4, 3) := by decide +kernel
theorem d2_10 : decode jdk_29_method_70_code 10 = .ok (.lload_n 2, 1) := by decide +kernel
theorem d2_11 : decode jdk_29_method_70_code 11 = .ok (.lreturn, 1) := by decide +kernel
theorem ef_2 (m : MethodId) (q1 : Int64) (q2 : Int64) : entryFrame m #[(.long q1), (.long q2)] 4 = mkF m 0 #[.val (.long q1), .second, .val (.long q2), .second] [] := by first | (simp [entryFrame, mkF, argsToLocals, Value.category]; done) | rfl
def f2 (q1 : Int64) (q2 : Int64) : Int64 := (if ((0 : Int32) < (lcmpW q1 q2)) then q2 else q1)
set_option maxRecDepth 65536 in
set_option maxHeartbeats 40000000 in
theorem rm2 (l : Launch) (Z : State) (a0 : Array Value) (hw : ∀ d ∈ tables_1, d.before a0 Z = true) (ws : List Jvm.Cond) (q1 : Int64) (q2 : Int64) (h0 : Heap)  :
    MetFree l (⟨"java/lang/Math", "min", "(JJ)J"⟩ : MethodName) (head1 (Jvm.Cond.code (⟨"java/lang/Math", "min", "(JJ)J"⟩ : MethodName) jdk_29_method_70_code 4 (some .long) :: ws) ({ frames := 0, cells := 0, slots := 0, locals := 0 } : Room)) (fun a U => a = #[(.long q1), (.long q2)] ∧ Z.Warmed39 U.vm ∧ U.heap = h0) (fun _ _ _ _ _ => True) (fun _ U o U' => ∃ v L, o = .returned v ∧ PJ h0 (f2 q1 q2) v U'.heap L ∧ FrameEnd U o U' L ({ frames := 0, cells := 0, slots := 0, locals := 0 } : Room).cells ({ frames := 0, cells := 0, slots := 0, locals := 0 } : Room).slots) := by
  refine MetFree.of_bodySF (Jvm.Free.JP.mathPlain rfl (by decide +kernel)) hisR ?_
  intro p e s m args below meth c s₁ Bd hml0 hP hK
  obtain ⟨rfl, hZ, hh⟩ := hP
  have hx := Bd.exec
  have hby := Bd.bytes
  have hlk := Bd.notSynchronized
  have hml : c.maxLocals = 4 := hml0
  have hown : s.vm.findClass "java/lang/Math" = some m.cls := findClass_of_methodNamed Bd.named
  have X0 : Stand p l e ({ frames := 0, cells := 0, slots := 0, locals := 0 } : Room) s m #[(.long q1), (.long q2)] below meth c s₁ [] 0 0 := Stand.of_body Bd
  have e0 : s₁.heap = h0 := by rw [← hh, Bd.state]; rfl
  show Goes p e below s ({ frames := 0, cells := 0, slots := 0, locals := 0 } : Room).cells ({ frames := 0, cells := 0, slots := 0, locals := 0 } : Room).slots (PJ h0 (f2 q1 q2)) s₁ (entryFrame m #[(.long q1), (.long q2)] 4)
  refine Goes.step (fun t k => castTop (ef_2 m q1 q2) k) ?_
  refine Goes.step (fun _ k => XS.lloadN X0.here hx rfl (hb hby d2_0) rfl k) ?_
  show Goes p e below s _ _ _ s₁ (mkF m 1 #[.val (.long q1), .second, .val (.long q2), .second] [(.long q1)])
  refine Goes.step (fun _ k => XS.lloadN X0.here hx rfl (hb hby d2_1) rfl k) ?_
  show Goes p e below s _ _ _ s₁ (mkF m 2 #[.val (.long q1), .second, .val (.long q2), .second] [(.long q2), (.long q1)])
  refine Goes.step (fun _ k => XS.lcmp X0.here hx rfl (hb hby d2_2) rfl k) ?_
  show Goes p e below s _ _ _ s₁ (mkF m 3 #[.val (.long q1), .second, .val (.long q2), .second] [(.int (lcmpW q1 q2))])
  refine Goes.ite (Q := PJ h0) (fun hc3 => ?_) (fun hc3 => ?_)
  · refine Goes.step (fun _ k => XS.ifYes X0.here hx rfl (pc0 := 3) (pc' := 10) rfl (hb hby d2_3) rfl ((if0 _ _).trans (tlt hc3).2.2.1) (by decide) (by decide) k) ?_
    show Goes p e below s _ _ _ s₁ (mkF m 10 #[.val (.long q1), .second, .val (.long q2), .second] [])
    refine Goes.step (fun _ k => XS.lloadN X0.here hx rfl (hb hby d2_10) rfl k) ?_
    show Goes p e below s _ _ _ s₁ (mkF m 11 #[.val (.long q1), .second, .val (.long q2), .second] [(.long q2)])
    exact Goes.outJ X0 hx hlk Bd.returns (hb hby d2_11) ⟨rfl, rfl, e0⟩ (by decide) (by decide)
  · refine Goes.step (fun _ k => XS.ifNo X0.here hx rfl (hb hby d2_3) rfl ((if0 _ _).trans (flt hc3).2.2.1) k) ?_
    show Goes p e below s _ _ _ s₁ (mkF m 6 #[.val (.long q1), .second, .val (.long q2), .second] [])
    refine Goes.step (fun _ k => XS.lloadN X0.here hx rfl (hb hby d2_6) rfl k) ?_
    show Goes p e below s _ _ _ s₁ (mkF m 7 #[.val (.long q1), .second, .val (.long q2), .second] [(.long q1)])
    refine Goes.step (fun _ k => XS.goto X0.here hx rfl (pc0 := 7) (pc' := 11) rfl (hb hby d2_7) (by decide) (by decide) k) ?_
    show Goes p e below s _ _ _ s₁ (mkF m 11 #[.val (.long q1), .second, .val (.long q2), .second] [(.long q1)])
    exact Goes.outJ X0 hx hlk Bd.returns (hb hby d2_11) ⟨rfl, rfl, e0⟩ (by decide) (by decide)
theorem d1_0 : decode prog_15_method_2_code 0 = .ok (.ldc2_w 26, 3) := by decide +kernel
theorem d1_3 : decode prog_15_method_2_code 3 = .ok (.lload_n 0, 1) := by decide +kernel
theorem d1_4 : decode prog_15_method_2_code 4 = .ok (.ldc2_w 28, 3) := by decide +kernel
theorem d1_7 : decode prog_15_method_2_code 7 = .ok (.ldiv, 1) := by decide +kernel
theorem d1_8 : decode prog_15_method_2_code 8 = .ok (.invokestatic 30, 3) := by decide +kernel
theorem d1_11 : decode prog_15_method_2_code 11 = .ok (.l2i, 1) := by decide +kernel
theorem d1_12 : decode prog_15_method_2_code 12 = .ok (.ireturn, 1) := by decide +kernel
theorem pd_1_0 : parseMethodDescriptor "(JJ)J" = some ⟨[.long, .long], some .long⟩ := by decide +kernel
theorem pn_1 : plainName "com/example/cartouche/cartouche/cli/RecordLines" = true := by first | (simp [plainName, overriddenIn]; done) | decide +kernel
theorem ef_1 (m : MethodId) (q1 : Int64) : entryFrame m #[(.long q1)] 2 = mkF m 0 #[.val (.long q1), .second] [] := by first | (simp [entryFrame, mkF, argsToLocals, Value.category]; done) | rfl
def f1 (q1 : Int64) : Int32 := ((f2 (1073741824 : Int64) (q1 / (8 : Int64))).toInt32)
set_option maxRecDepth 65536 in
set_option maxHeartbeats 40000000 in
theorem rm1 (l : Launch) (Z : State) (a0 : Array Value) (hw : ∀ d ∈ tables_1, d.before a0 Z = true) (ws : List Jvm.Cond) (q1 : Int64) (h0 : Heap)  :
    MetFree l (⟨"com/example/cartouche/cartouche/cli/RecordLines", "maxLength", "(J)I"⟩ : MethodName) (head1 (Jvm.Cond.code (⟨"com/example/cartouche/cartouche/cli/RecordLines", "maxLength", "(J)I"⟩ : MethodName) prog_15_method_2_code 2 (some .int) :: ws) ({ frames := 1, cells := 0, slots := 0, locals := 15 } : Room)) (fun a U => a = #[(.long q1)] ∧ Z.Warmed39 U.vm ∧ U.heap = h0) (fun _ _ _ _ _ => True) (fun _ U o U' => ∃ v L, o = .returned v ∧ PI h0 (f1 q1) v U'.heap L ∧ FrameEnd U o U' L ({ frames := 1, cells := 0, slots := 0, locals := 15 } : Room).cells ({ frames := 1, cells := 0, slots := 0, locals := 15 } : Room).slots) := by
  refine MetFree.of_bodySF (plainFor_of_name pn_1) hisR ?_
  intro p e s m args below meth c s₁ Bd hml0 hP hK
  obtain ⟨rfl, hZ, hh⟩ := hP
  have hx := Bd.exec
  have hby := Bd.bytes
  have hlk := Bd.notSynchronized
  have hml : c.maxLocals = 2 := hml0
  have hown : s.vm.findClass "com/example/cartouche/cartouche/cli/RecordLines" = some m.cls := findClass_of_methodNamed Bd.named
  have X0 : Stand p l e ({ frames := 1, cells := 0, slots := 0, locals := 15 } : Room) s m #[(.long q1)] below meth c s₁ [] 0 0 := Stand.of_body Bd
  have e0 : s₁.heap = h0 := by rw [← hh, Bd.state]; rfl
  show Goes p e below s ({ frames := 1, cells := 0, slots := 0, locals := 15 } : Room).cells ({ frames := 1, cells := 0, slots := 0, locals := 15 } : Room).slots (PI h0 (f1 q1)) s₁ (entryFrame m #[(.long q1)] 2)
  refine Goes.step (fun t k => castTop (ef_1 m q1) k) ?_
  refine Goes.step (fun _ k => X0.ldc2Long hx hown (mvT hZ (hw _ (List.mem_of_getElem? (i := 5) rfl))) (g := (mkF m 0 #[.val (.long q1), .second] [])) rfl (hb hby d1_0) _ k) ?_
  show Goes p e below s _ _ _ s₁ (mkF m 3 #[.val (.long q1), .second] [(.long (1073741824 : Int64))])
  refine Goes.step (fun _ k => XS.lloadN X0.here hx rfl (hb hby d1_3) rfl k) ?_
  show Goes p e below s _ _ _ s₁ (mkF m 4 #[.val (.long q1), .second] [(.long q1), (.long (1073741824 : Int64))])
  refine Goes.step (fun _ k => X0.ldc2Long hx hown (mvT hZ (hw _ (List.mem_of_getElem? (i := 6) rfl))) (g := (mkF m 4 #[.val (.long q1), .second] [(.long q1), (.long (1073741824 : Int64))])) rfl (hb hby d1_4) _ k) ?_
  show Goes p e below s _ _ _ s₁ (mkF m 7 #[.val (.long q1), .second] [(.long (8 : Int64)), (.long q1), (.long (1073741824 : Int64))])
  refine Goes.step (fun _ k => XS.ldiv X0.here hx rfl (hb hby d1_7) rfl (by decide) k) ?_
  show Goes p e below s _ _ _ s₁ (mkF m 8 #[.val (.long q1), .second] [(.long (q1 / (8 : Int64))), (.long (1073741824 : Int64))])
  obtain ⟨T1, X1, e1, st1⟩ := callPure X0 hx hZ (y := (⟨"java/lang/Math", "min", "(JJ)J"⟩ : MethodName)) hown (hw _ (List.mem_of_getElem? (i := 7) rfl)) (hw _ (List.mem_of_getElem? (i := 8) rfl)) (hw _ (List.mem_of_getElem? (i := 9) rfl)) (hw _ (List.mem_of_getElem? (i := 10) rfl)) (by decide) (W := 0) (argsL := [(.long (1073741824 : Int64)), (.long (q1 / (8 : Int64)))]) (rest := []) (r := (.long (f2 (1073741824 : Int64) (q1 / (8 : Int64))))) (fun _ _ _ q => q) (rm2 l Z a0 hw [] (1073741824 : Int64) (q1 / (8 : Int64)) h0 ) (by decide) (by decide) (by decide) (by decide) e0 (g := (mkF m 8 #[.val (.long q1), .second] [(.long (q1 / (8 : Int64))), (.long (1073741824 : Int64))])) rfl (by rw [hml]; rfl) (lenOf pd_1_0 rfl) rfl (by show 2 * 0 + _ ≤ _; exact Nat.le_of_eq rfl) (hb hby d1_8)
  refine Goes.step st1 ?_
  show Goes p e below s _ _ _ T1 (mkF m 11 #[.val (.long q1), .second] [(.long (f2 (1073741824 : Int64) (q1 / (8 : Int64))))])
  refine Goes.step (fun _ k => XS.l2i X1.here hx rfl (hb hby d1_11) rfl k) ?_
  show Goes p e below s _ _ _ T1 (mkF m 12 #[.val (.long q1), .second] [(.int ((f2 (1073741824 : Int64) (q1 / (8 : Int64))).toInt32))])
  exact Goes.outI X1 hx hlk Bd.returns (hb hby d1_12) ⟨rfl, rfl, e1⟩ (by decide) (by decide)
theorem pd_0_0 : parseMethodDescriptor "(J)I" = some ⟨[.long], some .int⟩ := by decide +kernel
theorem pn_0 : plainName "com/example/cartouche/cartouche/cli/RecordLinesMaxLengthPinLaw" = true := by first | (simp [plainName, overriddenIn]; done) | decide +kernel
theorem ef_0 (m : MethodId) (q1 : Int64) (p2 : Int32) : entryFrame m #[(.long q1), (.int p2)] maxLocals = mkF m 0 #[.val (.long q1), .second, .val (.int p2), .unset, .unset, .unset, .unset, .unset, .unset, .unset, .unset, .unset] [] := by first | (simp [entryFrame, mkF, argsToLocals, Value.category, maxLocals]; done) | rfl
def f0_102 (q1 : Int64) (p2 : Int32) (v3_102 : Int64) (v5_102 : Int32) (v10_102 : Int64) : Int32 := (0 : Int32)
def f0_21 (q1 : Int64) (p2 : Int32) (v3_21 : Int64) : Int32 := (if ((lcmpW v3_21 ((1073741824 : Int64) * (8 : Int64))) < (0 : Int32)) then (if ((lcmpW ((f1 v3_21).toInt64) (0 : Int64)) < (0 : Int32)) then (f0_102 q1 p2 v3_21 (f1 v3_21) ((f1 v3_21).toInt64)) else (if ((0 : Int32) < (lcmpW (((f1 v3_21).toInt64) * (8 : Int64)) v3_21)) then (f0_102 q1 p2 v3_21 (f1 v3_21) ((f1 v3_21).toInt64)) else (if ((lcmpW v3_21 ((((f1 v3_21).toInt64) * (8 : Int64)) + (8 : Int64))) < (0 : Int32)) then (1 : Int32) else (f0_102 q1 p2 v3_21 (f1 v3_21) ((f1 v3_21).toInt64))))) else (if ((f1 v3_21) = (1073741824 : Int32)) then (1 : Int32) else (0 : Int32)))
def f0 (q1 : Int64) (p2 : Int32) : Int32 := (if ((p2 &&& (1 : Int32)) = (0 : Int32)) then (f0_21 q1 p2 (q1 &&& (9223372036854775807 : Int64))) else (f0_21 q1 p2 (q1 &&& (17179869183 : Int64))))
set_option maxRecDepth 65536 in
set_option maxHeartbeats 40000000 in
theorem rm0 (l : Launch) (Z : State) (a0 : Array Value) (hw : ∀ d ∈ tables_1, d.before a0 Z = true) (ws : List Jvm.Cond) (q1 : Int64) (p2 : Int32) (h0 : Heap)  :
    MetFree l x (head1 (Jvm.Cond.code x code maxLocals ret :: ws) room_1) (fun a U => a = #[(.long q1), (.int p2)] ∧ Z.Warmed39 U.vm ∧ U.heap = h0) (fun _ _ _ _ _ => True) (fun _ U o U' => ∃ v L, o = .returned v ∧ PI h0 (f0 q1 p2) v U'.heap L ∧ FrameEnd U o U' L room_1.cells room_1.slots) := by
  refine MetFree.of_bodySF (plainFor_of_name pn_0) hisR ?_
  intro p e s m args below meth c s₁ Bd hml0 hP hK
  obtain ⟨rfl, hZ, hh⟩ := hP
  have hx := Bd.exec
  have hby := Bd.bytes
  have hlk := Bd.notSynchronized
  have hml : c.maxLocals = 12 := hml0
  have hown : s.vm.findClass "com/example/cartouche/cartouche/cli/RecordLinesMaxLengthPinLaw" = some m.cls := findClass_of_methodNamed Bd.named
  have X0 : Stand p l e room_1 s m #[(.long q1), (.int p2)] below meth c s₁ [] 0 0 := Stand.of_body Bd
  have e0 : s₁.heap = h0 := by rw [← hh, Bd.state]; rfl
  have B102 : ∀ (T : State), Stand p l e room_1 s m #[(.long q1), (.int p2)] below meth c T [] 0 0 → T.heap = h0 → ∀ (v3_102 : Int64) (v5_102 : Int32) (v10_102 : Int64), Goes p e below s room_1.cells room_1.slots (PI h0 (f0_102 q1 p2 v3_102 v5_102 v10_102)) T (mkF m 102 #[.val (.long q1), .second, .val (.int p2), .val (.long v3_102), .second, .val (.int v5_102), .val (.long (1073741824 : Int64)), .second, .val (.long ((1073741824 : Int64) * (8 : Int64))), .second, .val (.long v10_102), .second] []) := by
    intro T X eT v3_102 v5_102 v10_102
    refine Goes.step (fun _ k => XS.iconst X.here hx rfl (hb hby at_102) k) ?_
    show Goes p e below s _ _ _ T (mkF m 103 #[.val (.long q1), .second, .val (.int p2), .val (.long v3_102), .second, .val (.int v5_102), .val (.long (1073741824 : Int64)), .second, .val (.long ((1073741824 : Int64) * (8 : Int64))), .second, .val (.long v10_102), .second] [(.int (0 : Int32))])
    exact Goes.outN X hx hlk (t := .boolean) Bd.returns (by simp) (hb hby at_103) ⟨rfl, rfl, eT⟩ (by decide) (by decide)
  have B21 : ∀ (T : State), Stand p l e room_1 s m #[(.long q1), (.int p2)] below meth c T [] 0 0 → T.heap = h0 → ∀ (v3_21 : Int64), Goes p e below s room_1.cells room_1.slots (PI h0 (f0_21 q1 p2 v3_21)) T (mkF m 21 #[.val (.long q1), .second, .val (.int p2), .val (.long v3_21), .second, .unset, .unset, .unset, .unset, .unset, .unset, .unset] []) := by
    intro T X eT v3_21
    refine Goes.step (fun _ k => XS.lloadN X.here hx rfl (hb hby at_21) rfl k) ?_
    show Goes p e below s _ _ _ T (mkF m 22 #[.val (.long q1), .second, .val (.int p2), .val (.long v3_21), .second, .unset, .unset, .unset, .unset, .unset, .unset, .unset] [(.long v3_21)])
    obtain ⟨T1, X1, e1, st1⟩ := callPure X hx hZ (y := (⟨"com/example/cartouche/cartouche/cli/RecordLines", "maxLength", "(J)I"⟩ : MethodName)) hown (hw _ (List.mem_of_getElem? (i := 1) rfl)) (hw _ (List.mem_of_getElem? (i := 2) rfl)) (hw _ (List.mem_of_getElem? (i := 3) rfl)) (hw _ (List.mem_of_getElem? (i := 4) rfl)) (by decide) (W := 0) (argsL := [(.long v3_21)]) (rest := []) (r := (.int (f1 v3_21))) (fun _ _ _ q => q) (rm1 l Z a0 hw [] v3_21 h0 ) (by decide) (by decide) (by decide) (by decide) eT (g := (mkF m 22 #[.val (.long q1), .second, .val (.int p2), .val (.long v3_21), .second, .unset, .unset, .unset, .unset, .unset, .unset, .unset] [(.long v3_21)])) rfl (by rw [hml]; rfl) (lenOf pd_0_0 rfl) rfl (by show 2 * 0 + _ ≤ _; exact Nat.le_of_eq rfl) (hb hby at_22)
    refine Goes.step st1 ?_
    show Goes p e below s _ _ _ T1 (mkF m 25 #[.val (.long q1), .second, .val (.int p2), .val (.long v3_21), .second, .unset, .unset, .unset, .unset, .unset, .unset, .unset] [(.int (f1 v3_21))])
    refine Goes.step (fun _ k => XS.istore X1.here hx rfl (hb hby at_25) rfl (l' := #[.val (.long q1), .second, .val (.int p2), .val (.long v3_21), .second, .val (.int (f1 v3_21)), .unset, .unset, .unset, .unset, .unset, .unset]) rfl k) ?_
    show Goes p e below s _ _ _ T1 (mkF m 27 #[.val (.long q1), .second, .val (.int p2), .val (.long v3_21), .second, .val (.int (f1 v3_21)), .unset, .unset, .unset, .unset, .unset, .unset] [])
    refine Goes.step (fun _ k => X1.ldc2Long hx hown (mvT hZ (hw _ (List.mem_of_getElem? (i := 11) rfl))) (g := (mkF m 27 #[.val (.long q1), .second, .val (.int p2), .val (.long v3_21), .second, .val (.int (f1 v3_21)), .unset, .unset, .unset, .unset, .unset, .unset] [])) rfl (hb hby at_27) _ k) ?_
    show Goes p e below s _ _ _ T1 (mkF m 30 #[.val (.long q1), .second, .val (.int p2), .val (.long v3_21), .second, .val (.int (f1 v3_21)), .unset, .unset, .unset, .unset, .unset, .unset] [(.long (1073741824 : Int64))])
    refine Goes.step (fun _ k => XS.lstore X1.here hx rfl (hb hby at_30) rfl (l' := #[.val (.long q1), .second, .val (.int p2), .val (.long v3_21), .second, .val (.int (f1 v3_21)), .val (.long (1073741824 : Int64)), .second, .unset, .unset, .unset, .unset]) rfl k) ?_
    show Goes p e below s _ _ _ T1 (mkF m 32 #[.val (.long q1), .second, .val (.int p2), .val (.long v3_21), .second, .val (.int (f1 v3_21)), .val (.long (1073741824 : Int64)), .second, .unset, .unset, .unset, .unset] [])
    refine Goes.step (fun _ k => XS.lload X1.here hx rfl (hb hby at_32) rfl k) ?_
    show Goes p e below s _ _ _ T1 (mkF m 34 #[.val (.long q1), .second, .val (.int p2), .val (.long v3_21), .second, .val (.int (f1 v3_21)), .val (.long (1073741824 : Int64)), .second, .unset, .unset, .unset, .unset] [(.long (1073741824 : Int64))])
    refine Goes.step (fun _ k => X1.ldc2Long hx hown (mvT hZ (hw _ (List.mem_of_getElem? (i := 12) rfl))) (g := (mkF m 34 #[.val (.long q1), .second, .val (.int p2), .val (.long v3_21), .second, .val (.int (f1 v3_21)), .val (.long (1073741824 : Int64)), .second, .unset, .unset, .unset, .unset] [(.long (1073741824 : Int64))])) rfl (hb hby at_34) _ k) ?_
    show Goes p e below s _ _ _ T1 (mkF m 37 #[.val (.long q1), .second, .val (.int p2), .val (.long v3_21), .second, .val (.int (f1 v3_21)), .val (.long (1073741824 : Int64)), .second, .unset, .unset, .unset, .unset] [(.long (8 : Int64)), (.long (1073741824 : Int64))])
    refine Goes.step (fun _ k => XS.lmul X1.here hx rfl (hb hby at_37) rfl k) ?_
    show Goes p e below s _ _ _ T1 (mkF m 38 #[.val (.long q1), .second, .val (.int p2), .val (.long v3_21), .second, .val (.int (f1 v3_21)), .val (.long (1073741824 : Int64)), .second, .unset, .unset, .unset, .unset] [(.long ((1073741824 : Int64) * (8 : Int64)))])
    refine Goes.step (fun _ k => XS.lstore X1.here hx rfl (hb hby at_38) rfl (l' := #[.val (.long q1), .second, .val (.int p2), .val (.long v3_21), .second, .val (.int (f1 v3_21)), .val (.long (1073741824 : Int64)), .second, .val (.long ((1073741824 : Int64) * (8 : Int64))), .second, .unset, .unset]) rfl k) ?_
    show Goes p e below s _ _ _ T1 (mkF m 40 #[.val (.long q1), .second, .val (.int p2), .val (.long v3_21), .second, .val (.int (f1 v3_21)), .val (.long (1073741824 : Int64)), .second, .val (.long ((1073741824 : Int64) * (8 : Int64))), .second, .unset, .unset] [])
    refine Goes.step (fun _ k => XS.lloadN X1.here hx rfl (hb hby at_40) rfl k) ?_
    show Goes p e below s _ _ _ T1 (mkF m 41 #[.val (.long q1), .second, .val (.int p2), .val (.long v3_21), .second, .val (.int (f1 v3_21)), .val (.long (1073741824 : Int64)), .second, .val (.long ((1073741824 : Int64) * (8 : Int64))), .second, .unset, .unset] [(.long v3_21)])
    refine Goes.step (fun _ k => XS.lload X1.here hx rfl (hb hby at_41) rfl k) ?_
    show Goes p e below s _ _ _ T1 (mkF m 43 #[.val (.long q1), .second, .val (.int p2), .val (.long v3_21), .second, .val (.int (f1 v3_21)), .val (.long (1073741824 : Int64)), .second, .val (.long ((1073741824 : Int64) * (8 : Int64))), .second, .unset, .unset] [(.long ((1073741824 : Int64) * (8 : Int64))), (.long v3_21)])
    refine Goes.step (fun _ k => XS.lcmp X1.here hx rfl (hb hby at_43) rfl k) ?_
    show Goes p e below s _ _ _ T1 (mkF m 44 #[.val (.long q1), .second, .val (.int p2), .val (.long v3_21), .second, .val (.int (f1 v3_21)), .val (.long (1073741824 : Int64)), .second, .val (.long ((1073741824 : Int64) * (8 : Int64))), .second, .unset, .unset] [(.int (lcmpW v3_21 ((1073741824 : Int64) * (8 : Int64))))])
    refine Goes.ite (Q := PI h0) (fun hc44 => ?_) (fun hc44 => ?_)
    · refine Goes.step (fun _ k => XS.ifYes X1.here hx rfl (pc0 := 44) (pc' := 60) rfl (hb hby at_44) rfl ((if0 _ _).trans (tlt hc44).1) (by decide) (by decide) k) ?_
      show Goes p e below s _ _ _ T1 (mkF m 60 #[.val (.long q1), .second, .val (.int p2), .val (.long v3_21), .second, .val (.int (f1 v3_21)), .val (.long (1073741824 : Int64)), .second, .val (.long ((1073741824 : Int64) * (8 : Int64))), .second, .unset, .unset] [])
      refine Goes.step (fun _ k => XS.iload X1.here hx rfl (hb hby at_60) rfl k) ?_
      show Goes p e below s _ _ _ T1 (mkF m 62 #[.val (.long q1), .second, .val (.int p2), .val (.long v3_21), .second, .val (.int (f1 v3_21)), .val (.long (1073741824 : Int64)), .second, .val (.long ((1073741824 : Int64) * (8 : Int64))), .second, .unset, .unset] [(.int (f1 v3_21))])
      refine Goes.step (fun _ k => XS.i2l X1.here hx rfl (hb hby at_62) rfl k) ?_
      show Goes p e below s _ _ _ T1 (mkF m 63 #[.val (.long q1), .second, .val (.int p2), .val (.long v3_21), .second, .val (.int (f1 v3_21)), .val (.long (1073741824 : Int64)), .second, .val (.long ((1073741824 : Int64) * (8 : Int64))), .second, .unset, .unset] [(.long ((f1 v3_21).toInt64))])
      refine Goes.step (fun _ k => XS.lstore X1.here hx rfl (hb hby at_63) rfl (l' := #[.val (.long q1), .second, .val (.int p2), .val (.long v3_21), .second, .val (.int (f1 v3_21)), .val (.long (1073741824 : Int64)), .second, .val (.long ((1073741824 : Int64) * (8 : Int64))), .second, .val (.long ((f1 v3_21).toInt64)), .second]) rfl k) ?_
      show Goes p e below s _ _ _ T1 (mkF m 65 #[.val (.long q1), .second, .val (.int p2), .val (.long v3_21), .second, .val (.int (f1 v3_21)), .val (.long (1073741824 : Int64)), .second, .val (.long ((1073741824 : Int64) * (8 : Int64))), .second, .val (.long ((f1 v3_21).toInt64)), .second] [])
      refine Goes.step (fun _ k => XS.lload X1.here hx rfl (hb hby at_65) rfl k) ?_
      show Goes p e below s _ _ _ T1 (mkF m 67 #[.val (.long q1), .second, .val (.int p2), .val (.long v3_21), .second, .val (.int (f1 v3_21)), .val (.long (1073741824 : Int64)), .second, .val (.long ((1073741824 : Int64) * (8 : Int64))), .second, .val (.long ((f1 v3_21).toInt64)), .second] [(.long ((f1 v3_21).toInt64))])
      refine Goes.step (fun _ k => XS.lconst X1.here hx rfl (hb hby at_67) k) ?_
      show Goes p e below s _ _ _ T1 (mkF m 68 #[.val (.long q1), .second, .val (.int p2), .val (.long v3_21), .second, .val (.int (f1 v3_21)), .val (.long (1073741824 : Int64)), .second, .val (.long ((1073741824 : Int64) * (8 : Int64))), .second, .val (.long ((f1 v3_21).toInt64)), .second] [(.long (0 : Int64)), (.long ((f1 v3_21).toInt64))])
      refine Goes.step (fun _ k => XS.lcmp X1.here hx rfl (hb hby at_68) rfl k) ?_
      show Goes p e below s _ _ _ T1 (mkF m 69 #[.val (.long q1), .second, .val (.int p2), .val (.long v3_21), .second, .val (.int (f1 v3_21)), .val (.long (1073741824 : Int64)), .second, .val (.long ((1073741824 : Int64) * (8 : Int64))), .second, .val (.long ((f1 v3_21).toInt64)), .second] [(.int (lcmpW ((f1 v3_21).toInt64) (0 : Int64)))])
      refine Goes.ite (Q := PI h0) (fun hc69 => ?_) (fun hc69 => ?_)
      · refine Goes.step (fun _ k => XS.ifYes X1.here hx rfl (pc0 := 69) (pc' := 102) rfl (hb hby at_69) rfl ((if0 _ _).trans (tlt hc69).1) (by decide) (by decide) k) ?_
        show Goes p e below s _ _ _ T1 (mkF m 102 #[.val (.long q1), .second, .val (.int p2), .val (.long v3_21), .second, .val (.int (f1 v3_21)), .val (.long (1073741824 : Int64)), .second, .val (.long ((1073741824 : Int64) * (8 : Int64))), .second, .val (.long ((f1 v3_21).toInt64)), .second] [])
        exact B102 T1 X1 e1 v3_21 (f1 v3_21) ((f1 v3_21).toInt64)
      · refine Goes.step (fun _ k => XS.ifNo X1.here hx rfl (hb hby at_69) rfl ((if0 _ _).trans (flt hc69).1) k) ?_
        show Goes p e below s _ _ _ T1 (mkF m 72 #[.val (.long q1), .second, .val (.int p2), .val (.long v3_21), .second, .val (.int (f1 v3_21)), .val (.long (1073741824 : Int64)), .second, .val (.long ((1073741824 : Int64) * (8 : Int64))), .second, .val (.long ((f1 v3_21).toInt64)), .second] [])
        refine Goes.step (fun _ k => XS.lload X1.here hx rfl (hb hby at_72) rfl k) ?_
        show Goes p e below s _ _ _ T1 (mkF m 74 #[.val (.long q1), .second, .val (.int p2), .val (.long v3_21), .second, .val (.int (f1 v3_21)), .val (.long (1073741824 : Int64)), .second, .val (.long ((1073741824 : Int64) * (8 : Int64))), .second, .val (.long ((f1 v3_21).toInt64)), .second] [(.long ((f1 v3_21).toInt64))])
        refine Goes.step (fun _ k => X1.ldc2Long hx hown (mvT hZ (hw _ (List.mem_of_getElem? (i := 12) rfl))) (g := (mkF m 74 #[.val (.long q1), .second, .val (.int p2), .val (.long v3_21), .second, .val (.int (f1 v3_21)), .val (.long (1073741824 : Int64)), .second, .val (.long ((1073741824 : Int64) * (8 : Int64))), .second, .val (.long ((f1 v3_21).toInt64)), .second] [(.long ((f1 v3_21).toInt64))])) rfl (hb hby at_74) _ k) ?_
        show Goes p e below s _ _ _ T1 (mkF m 77 #[.val (.long q1), .second, .val (.int p2), .val (.long v3_21), .second, .val (.int (f1 v3_21)), .val (.long (1073741824 : Int64)), .second, .val (.long ((1073741824 : Int64) * (8 : Int64))), .second, .val (.long ((f1 v3_21).toInt64)), .second] [(.long (8 : Int64)), (.long ((f1 v3_21).toInt64))])
        refine Goes.step (fun _ k => XS.lmul X1.here hx rfl (hb hby at_77) rfl k) ?_
        show Goes p e below s _ _ _ T1 (mkF m 78 #[.val (.long q1), .second, .val (.int p2), .val (.long v3_21), .second, .val (.int (f1 v3_21)), .val (.long (1073741824 : Int64)), .second, .val (.long ((1073741824 : Int64) * (8 : Int64))), .second, .val (.long ((f1 v3_21).toInt64)), .second] [(.long (((f1 v3_21).toInt64) * (8 : Int64)))])
        refine Goes.step (fun _ k => XS.lloadN X1.here hx rfl (hb hby at_78) rfl k) ?_
        show Goes p e below s _ _ _ T1 (mkF m 79 #[.val (.long q1), .second, .val (.int p2), .val (.long v3_21), .second, .val (.int (f1 v3_21)), .val (.long (1073741824 : Int64)), .second, .val (.long ((1073741824 : Int64) * (8 : Int64))), .second, .val (.long ((f1 v3_21).toInt64)), .second] [(.long v3_21), (.long (((f1 v3_21).toInt64) * (8 : Int64)))])
        refine Goes.step (fun _ k => XS.lcmp X1.here hx rfl (hb hby at_79) rfl k) ?_
        show Goes p e below s _ _ _ T1 (mkF m 80 #[.val (.long q1), .second, .val (.int p2), .val (.long v3_21), .second, .val (.int (f1 v3_21)), .val (.long (1073741824 : Int64)), .second, .val (.long ((1073741824 : Int64) * (8 : Int64))), .second, .val (.long ((f1 v3_21).toInt64)), .second] [(.int (lcmpW (((f1 v3_21).toInt64) * (8 : Int64)) v3_21))])
        refine Goes.ite (Q := PI h0) (fun hc80 => ?_) (fun hc80 => ?_)
        · refine Goes.step (fun _ k => XS.ifYes X1.here hx rfl (pc0 := 80) (pc' := 102) rfl (hb hby at_80) rfl ((if0 _ _).trans (tlt hc80).2.2.1) (by decide) (by decide) k) ?_
          show Goes p e below s _ _ _ T1 (mkF m 102 #[.val (.long q1), .second, .val (.int p2), .val (.long v3_21), .second, .val (.int (f1 v3_21)), .val (.long (1073741824 : Int64)), .second, .val (.long ((1073741824 : Int64) * (8 : Int64))), .second, .val (.long ((f1 v3_21).toInt64)), .second] [])
          exact B102 T1 X1 e1 v3_21 (f1 v3_21) ((f1 v3_21).toInt64)
        · refine Goes.step (fun _ k => XS.ifNo X1.here hx rfl (hb hby at_80) rfl ((if0 _ _).trans (flt hc80).2.2.1) k) ?_
          show Goes p e below s _ _ _ T1 (mkF m 83 #[.val (.long q1), .second, .val (.int p2), .val (.long v3_21), .second, .val (.int (f1 v3_21)), .val (.long (1073741824 : Int64)), .second, .val (.long ((1073741824 : Int64) * (8 : Int64))), .second, .val (.long ((f1 v3_21).toInt64)), .second] [])
          refine Goes.step (fun _ k => XS.lloadN X1.here hx rfl (hb hby at_83) rfl k) ?_
          show Goes p e below s _ _ _ T1 (mkF m 84 #[.val (.long q1), .second, .val (.int p2), .val (.long v3_21), .second, .val (.int (f1 v3_21)), .val (.long (1073741824 : Int64)), .second, .val (.long ((1073741824 : Int64) * (8 : Int64))), .second, .val (.long ((f1 v3_21).toInt64)), .second] [(.long v3_21)])
          refine Goes.step (fun _ k => XS.lload X1.here hx rfl (hb hby at_84) rfl k) ?_
          show Goes p e below s _ _ _ T1 (mkF m 86 #[.val (.long q1), .second, .val (.int p2), .val (.long v3_21), .second, .val (.int (f1 v3_21)), .val (.long (1073741824 : Int64)), .second, .val (.long ((1073741824 : Int64) * (8 : Int64))), .second, .val (.long ((f1 v3_21).toInt64)), .second] [(.long ((f1 v3_21).toInt64)), (.long v3_21)])
          refine Goes.step (fun _ k => X1.ldc2Long hx hown (mvT hZ (hw _ (List.mem_of_getElem? (i := 12) rfl))) (g := (mkF m 86 #[.val (.long q1), .second, .val (.int p2), .val (.long v3_21), .second, .val (.int (f1 v3_21)), .val (.long (1073741824 : Int64)), .second, .val (.long ((1073741824 : Int64) * (8 : Int64))), .second, .val (.long ((f1 v3_21).toInt64)), .second] [(.long ((f1 v3_21).toInt64)), (.long v3_21)])) rfl (hb hby at_86) _ k) ?_
          show Goes p e below s _ _ _ T1 (mkF m 89 #[.val (.long q1), .second, .val (.int p2), .val (.long v3_21), .second, .val (.int (f1 v3_21)), .val (.long (1073741824 : Int64)), .second, .val (.long ((1073741824 : Int64) * (8 : Int64))), .second, .val (.long ((f1 v3_21).toInt64)), .second] [(.long (8 : Int64)), (.long ((f1 v3_21).toInt64)), (.long v3_21)])
          refine Goes.step (fun _ k => XS.lmul X1.here hx rfl (hb hby at_89) rfl k) ?_
          show Goes p e below s _ _ _ T1 (mkF m 90 #[.val (.long q1), .second, .val (.int p2), .val (.long v3_21), .second, .val (.int (f1 v3_21)), .val (.long (1073741824 : Int64)), .second, .val (.long ((1073741824 : Int64) * (8 : Int64))), .second, .val (.long ((f1 v3_21).toInt64)), .second] [(.long (((f1 v3_21).toInt64) * (8 : Int64))), (.long v3_21)])
          refine Goes.step (fun _ k => X1.ldc2Long hx hown (mvT hZ (hw _ (List.mem_of_getElem? (i := 12) rfl))) (g := (mkF m 90 #[.val (.long q1), .second, .val (.int p2), .val (.long v3_21), .second, .val (.int (f1 v3_21)), .val (.long (1073741824 : Int64)), .second, .val (.long ((1073741824 : Int64) * (8 : Int64))), .second, .val (.long ((f1 v3_21).toInt64)), .second] [(.long (((f1 v3_21).toInt64) * (8 : Int64))), (.long v3_21)])) rfl (hb hby at_90) _ k) ?_
          show Goes p e below s _ _ _ T1 (mkF m 93 #[.val (.long q1), .second, .val (.int p2), .val (.long v3_21), .second, .val (.int (f1 v3_21)), .val (.long (1073741824 : Int64)), .second, .val (.long ((1073741824 : Int64) * (8 : Int64))), .second, .val (.long ((f1 v3_21).toInt64)), .second] [(.long (8 : Int64)), (.long (((f1 v3_21).toInt64) * (8 : Int64))), (.long v3_21)])
          refine Goes.step (fun _ k => XS.ladd X1.here hx rfl (hb hby at_93) rfl k) ?_
          show Goes p e below s _ _ _ T1 (mkF m 94 #[.val (.long q1), .second, .val (.int p2), .val (.long v3_21), .second, .val (.int (f1 v3_21)), .val (.long (1073741824 : Int64)), .second, .val (.long ((1073741824 : Int64) * (8 : Int64))), .second, .val (.long ((f1 v3_21).toInt64)), .second] [(.long ((((f1 v3_21).toInt64) * (8 : Int64)) + (8 : Int64))), (.long v3_21)])
          refine Goes.step (fun _ k => XS.lcmp X1.here hx rfl (hb hby at_94) rfl k) ?_
          show Goes p e below s _ _ _ T1 (mkF m 95 #[.val (.long q1), .second, .val (.int p2), .val (.long v3_21), .second, .val (.int (f1 v3_21)), .val (.long (1073741824 : Int64)), .second, .val (.long ((1073741824 : Int64) * (8 : Int64))), .second, .val (.long ((f1 v3_21).toInt64)), .second] [(.int (lcmpW v3_21 ((((f1 v3_21).toInt64) * (8 : Int64)) + (8 : Int64))))])
          refine Goes.ite (Q := PI h0) (fun hc95 => ?_) (fun hc95 => ?_)
          · refine Goes.step (fun _ k => XS.ifNo X1.here hx rfl (hb hby at_95) rfl ((if0 _ _).trans (tlt hc95).2.1) k) ?_
            show Goes p e below s _ _ _ T1 (mkF m 98 #[.val (.long q1), .second, .val (.int p2), .val (.long v3_21), .second, .val (.int (f1 v3_21)), .val (.long (1073741824 : Int64)), .second, .val (.long ((1073741824 : Int64) * (8 : Int64))), .second, .val (.long ((f1 v3_21).toInt64)), .second] [])
            refine Goes.step (fun _ k => XS.iconst X1.here hx rfl (hb hby at_98) k) ?_
            show Goes p e below s _ _ _ T1 (mkF m 99 #[.val (.long q1), .second, .val (.int p2), .val (.long v3_21), .second, .val (.int (f1 v3_21)), .val (.long (1073741824 : Int64)), .second, .val (.long ((1073741824 : Int64) * (8 : Int64))), .second, .val (.long ((f1 v3_21).toInt64)), .second] [(.int (1 : Int32))])
            refine Goes.step (fun _ k => XS.goto X1.here hx rfl (pc0 := 99) (pc' := 103) rfl (hb hby at_99) (by decide) (by decide) k) ?_
            show Goes p e below s _ _ _ T1 (mkF m 103 #[.val (.long q1), .second, .val (.int p2), .val (.long v3_21), .second, .val (.int (f1 v3_21)), .val (.long (1073741824 : Int64)), .second, .val (.long ((1073741824 : Int64) * (8 : Int64))), .second, .val (.long ((f1 v3_21).toInt64)), .second] [(.int (1 : Int32))])
            exact Goes.outN X1 hx hlk (t := .boolean) Bd.returns (by simp) (hb hby at_103) ⟨rfl, rfl, e1⟩ (by decide) (by decide)
          · refine Goes.step (fun _ k => XS.ifYes X1.here hx rfl (pc0 := 95) (pc' := 102) rfl (hb hby at_95) rfl ((if0 _ _).trans (flt hc95).2.1) (by decide) (by decide) k) ?_
            show Goes p e below s _ _ _ T1 (mkF m 102 #[.val (.long q1), .second, .val (.int p2), .val (.long v3_21), .second, .val (.int (f1 v3_21)), .val (.long (1073741824 : Int64)), .second, .val (.long ((1073741824 : Int64) * (8 : Int64))), .second, .val (.long ((f1 v3_21).toInt64)), .second] [])
            exact B102 T1 X1 e1 v3_21 (f1 v3_21) ((f1 v3_21).toInt64)
    · refine Goes.step (fun _ k => XS.ifNo X1.here hx rfl (hb hby at_44) rfl ((if0 _ _).trans (flt hc44).1) k) ?_
      show Goes p e below s _ _ _ T1 (mkF m 47 #[.val (.long q1), .second, .val (.int p2), .val (.long v3_21), .second, .val (.int (f1 v3_21)), .val (.long (1073741824 : Int64)), .second, .val (.long ((1073741824 : Int64) * (8 : Int64))), .second, .unset, .unset] [])
      refine Goes.step (fun _ k => XS.iload X1.here hx rfl (hb hby at_47) rfl k) ?_
      show Goes p e below s _ _ _ T1 (mkF m 49 #[.val (.long q1), .second, .val (.int p2), .val (.long v3_21), .second, .val (.int (f1 v3_21)), .val (.long (1073741824 : Int64)), .second, .val (.long ((1073741824 : Int64) * (8 : Int64))), .second, .unset, .unset] [(.int (f1 v3_21))])
      refine Goes.step (fun _ k => X1.ldcInt hx hown (mvT hZ (hw _ (List.mem_of_getElem? (i := 13) rfl))) (g := (mkF m 49 #[.val (.long q1), .second, .val (.int p2), .val (.long v3_21), .second, .val (.int (f1 v3_21)), .val (.long (1073741824 : Int64)), .second, .val (.long ((1073741824 : Int64) * (8 : Int64))), .second, .unset, .unset] [(.int (f1 v3_21))])) rfl (hb hby at_49) _ k) ?_
      show Goes p e below s _ _ _ T1 (mkF m 51 #[.val (.long q1), .second, .val (.int p2), .val (.long v3_21), .second, .val (.int (f1 v3_21)), .val (.long (1073741824 : Int64)), .second, .val (.long ((1073741824 : Int64) * (8 : Int64))), .second, .unset, .unset] [(.int (1073741824 : Int32)), (.int (f1 v3_21))])
      refine Goes.ite (Q := PI h0) (fun hc51 => ?_) (fun hc51 => ?_)
      · refine Goes.step (fun _ k => XS.icmpNo X1.here hx rfl (hb hby at_51) rfl (teq hc51).2 k) ?_
        show Goes p e below s _ _ _ T1 (mkF m 54 #[.val (.long q1), .second, .val (.int p2), .val (.long v3_21), .second, .val (.int (f1 v3_21)), .val (.long (1073741824 : Int64)), .second, .val (.long ((1073741824 : Int64) * (8 : Int64))), .second, .unset, .unset] [])
        refine Goes.step (fun _ k => XS.iconst X1.here hx rfl (hb hby at_54) k) ?_
        show Goes p e below s _ _ _ T1 (mkF m 55 #[.val (.long q1), .second, .val (.int p2), .val (.long v3_21), .second, .val (.int (f1 v3_21)), .val (.long (1073741824 : Int64)), .second, .val (.long ((1073741824 : Int64) * (8 : Int64))), .second, .unset, .unset] [(.int (1 : Int32))])
        refine Goes.step (fun _ k => XS.goto X1.here hx rfl (pc0 := 55) (pc' := 59) rfl (hb hby at_55) (by decide) (by decide) k) ?_
        show Goes p e below s _ _ _ T1 (mkF m 59 #[.val (.long q1), .second, .val (.int p2), .val (.long v3_21), .second, .val (.int (f1 v3_21)), .val (.long (1073741824 : Int64)), .second, .val (.long ((1073741824 : Int64) * (8 : Int64))), .second, .unset, .unset] [(.int (1 : Int32))])
        exact Goes.outN X1 hx hlk (t := .boolean) Bd.returns (by simp) (hb hby at_59) ⟨rfl, rfl, e1⟩ (by decide) (by decide)
      · refine Goes.step (fun _ k => XS.icmpYes X1.here hx rfl (pc0 := 51) (pc' := 58) rfl (hb hby at_51) rfl (feq hc51).2 (by decide) (by decide) k) ?_
        show Goes p e below s _ _ _ T1 (mkF m 58 #[.val (.long q1), .second, .val (.int p2), .val (.long v3_21), .second, .val (.int (f1 v3_21)), .val (.long (1073741824 : Int64)), .second, .val (.long ((1073741824 : Int64) * (8 : Int64))), .second, .unset, .unset] [])
        refine Goes.step (fun _ k => XS.iconst X1.here hx rfl (hb hby at_58) k) ?_
        show Goes p e below s _ _ _ T1 (mkF m 59 #[.val (.long q1), .second, .val (.int p2), .val (.long v3_21), .second, .val (.int (f1 v3_21)), .val (.long (1073741824 : Int64)), .second, .val (.long ((1073741824 : Int64) * (8 : Int64))), .second, .unset, .unset] [(.int (0 : Int32))])
        exact Goes.outN X1 hx hlk (t := .boolean) Bd.returns (by simp) (hb hby at_59) ⟨rfl, rfl, e1⟩ (by decide) (by decide)
  show Goes p e below s room_1.cells room_1.slots (PI h0 (f0 q1 p2)) s₁ (entryFrame m #[(.long q1), (.int p2)] maxLocals)
  refine Goes.step (fun t k => castTop (ef_0 m q1 p2) k) ?_
  refine Goes.step (fun _ k => XS.iloadN X0.here hx rfl (hb hby at_0) rfl k) ?_
  show Goes p e below s _ _ _ s₁ (mkF m 1 #[.val (.long q1), .second, .val (.int p2), .unset, .unset, .unset, .unset, .unset, .unset, .unset, .unset, .unset] [(.int p2)])
  refine Goes.step (fun _ k => XS.iconst X0.here hx rfl (hb hby at_1) k) ?_
  show Goes p e below s _ _ _ s₁ (mkF m 2 #[.val (.long q1), .second, .val (.int p2), .unset, .unset, .unset, .unset, .unset, .unset, .unset, .unset, .unset] [(.int (1 : Int32)), (.int p2)])
  refine Goes.step (fun _ k => XS.iand X0.here hx rfl (hb hby at_2) rfl k) ?_
  show Goes p e below s _ _ _ s₁ (mkF m 3 #[.val (.long q1), .second, .val (.int p2), .unset, .unset, .unset, .unset, .unset, .unset, .unset, .unset, .unset] [(.int (p2 &&& (1 : Int32)))])
  refine Goes.ite (Q := PI h0) (fun hc3 => ?_) (fun hc3 => ?_)
  · refine Goes.step (fun _ k => XS.ifYes X0.here hx rfl (pc0 := 3) (pc' := 15) rfl (hb hby at_3) rfl ((if0 _ _).trans (teq hc3).1) (by decide) (by decide) k) ?_
    show Goes p e below s _ _ _ s₁ (mkF m 15 #[.val (.long q1), .second, .val (.int p2), .unset, .unset, .unset, .unset, .unset, .unset, .unset, .unset, .unset] [])
    refine Goes.step (fun _ k => XS.lloadN X0.here hx rfl (hb hby at_15) rfl k) ?_
    show Goes p e below s _ _ _ s₁ (mkF m 16 #[.val (.long q1), .second, .val (.int p2), .unset, .unset, .unset, .unset, .unset, .unset, .unset, .unset, .unset] [(.long q1)])
    refine Goes.step (fun _ k => X0.ldc2Long hx hown (mvT hZ (hw _ (List.mem_of_getElem? (i := 0) rfl))) (g := (mkF m 16 #[.val (.long q1), .second, .val (.int p2), .unset, .unset, .unset, .unset, .unset, .unset, .unset, .unset, .unset] [(.long q1)])) rfl (hb hby at_16) _ k) ?_
    show Goes p e below s _ _ _ s₁ (mkF m 19 #[.val (.long q1), .second, .val (.int p2), .unset, .unset, .unset, .unset, .unset, .unset, .unset, .unset, .unset] [(.long (9223372036854775807 : Int64)), (.long q1)])
    refine Goes.step (fun _ k => XS.land X0.here hx rfl (hb hby at_19) rfl k) ?_
    show Goes p e below s _ _ _ s₁ (mkF m 20 #[.val (.long q1), .second, .val (.int p2), .unset, .unset, .unset, .unset, .unset, .unset, .unset, .unset, .unset] [(.long (q1 &&& (9223372036854775807 : Int64)))])
    refine Goes.step (fun _ k => XS.lstoreN X0.here hx rfl (hb hby at_20) rfl (l' := #[.val (.long q1), .second, .val (.int p2), .val (.long (q1 &&& (9223372036854775807 : Int64))), .second, .unset, .unset, .unset, .unset, .unset, .unset, .unset]) rfl k) ?_
    show Goes p e below s _ _ _ s₁ (mkF m 21 #[.val (.long q1), .second, .val (.int p2), .val (.long (q1 &&& (9223372036854775807 : Int64))), .second, .unset, .unset, .unset, .unset, .unset, .unset, .unset] [])
    exact B21 s₁ X0 e0 (q1 &&& (9223372036854775807 : Int64))
  · refine Goes.step (fun _ k => XS.ifNo X0.here hx rfl (hb hby at_3) rfl ((if0 _ _).trans (feq hc3).1) k) ?_
    show Goes p e below s _ _ _ s₁ (mkF m 6 #[.val (.long q1), .second, .val (.int p2), .unset, .unset, .unset, .unset, .unset, .unset, .unset, .unset, .unset] [])
    refine Goes.step (fun _ k => XS.lloadN X0.here hx rfl (hb hby at_6) rfl k) ?_
    show Goes p e below s _ _ _ s₁ (mkF m 7 #[.val (.long q1), .second, .val (.int p2), .unset, .unset, .unset, .unset, .unset, .unset, .unset, .unset, .unset] [(.long q1)])
    refine Goes.step (fun _ k => X0.ldc2Long hx hown (mvT hZ (hw _ (List.mem_of_getElem? (i := 14) rfl))) (g := (mkF m 7 #[.val (.long q1), .second, .val (.int p2), .unset, .unset, .unset, .unset, .unset, .unset, .unset, .unset, .unset] [(.long q1)])) rfl (hb hby at_7) _ k) ?_
    show Goes p e below s _ _ _ s₁ (mkF m 10 #[.val (.long q1), .second, .val (.int p2), .unset, .unset, .unset, .unset, .unset, .unset, .unset, .unset, .unset] [(.long (17179869183 : Int64)), (.long q1)])
    refine Goes.step (fun _ k => XS.land X0.here hx rfl (hb hby at_10) rfl k) ?_
    show Goes p e below s _ _ _ s₁ (mkF m 11 #[.val (.long q1), .second, .val (.int p2), .unset, .unset, .unset, .unset, .unset, .unset, .unset, .unset, .unset] [(.long (q1 &&& (17179869183 : Int64)))])
    refine Goes.step (fun _ k => XS.lstoreN X0.here hx rfl (hb hby at_11) rfl (l' := #[.val (.long q1), .second, .val (.int p2), .val (.long (q1 &&& (17179869183 : Int64))), .second, .unset, .unset, .unset, .unset, .unset, .unset, .unset]) rfl k) ?_
    show Goes p e below s _ _ _ s₁ (mkF m 12 #[.val (.long q1), .second, .val (.int p2), .val (.long (q1 &&& (17179869183 : Int64))), .second, .unset, .unset, .unset, .unset, .unset, .unset, .unset] [])
    refine Goes.step (fun _ k => XS.goto X0.here hx rfl (pc0 := 12) (pc' := 21) rfl (hb hby at_12) (by decide) (by decide) k) ?_
    show Goes p e below s _ _ _ s₁ (mkF m 21 #[.val (.long q1), .second, .val (.int p2), .val (.long (q1 &&& (17179869183 : Int64))), .second, .unset, .unset, .unset, .unset, .unset, .unset, .unset] [])
    exact B21 s₁ X0 e0 (q1 &&& (17179869183 : Int64))
theorem own_min (m : Int64) (h0 : 0 ≤ m.toInt) : (f1 m).toInt = if m.toInt / 8 < 1073741824 then m.toInt / 8 else 1073741824 := by
  have d := (c_ldiv m 8 8 rfl (by decide)).1 h0
  have e : (1073741824 : Int64).toInt = 1073741824 := rfl
  have c1 := c_l2i (m / 8)
  have r1 := rng32 (m / 8).toInt32
  simp only [f1, f2, lw_gt, Int64.lt_iff_toInt_lt, e, d]
  split
  · rw [d] at c1; omega
  · rfl
theorem own_part (q1 : Int64) (p2 : Int32) (m : Int64) (h0 : 0 ≤ m.toInt) : f0_21 q1 p2 m = 1 := by
  have k := own_min m h0
  have r := rng64 m
  have e0 : (0 : Int64).toInt = 0 := rfl
  have e8 : (8 : Int64).toInt = 8 := rfl
  have et : ((1073741824 : Int64) * (8 : Int64)).toInt = 8589934592 := rfl
  have ec : (1073741824 : Int32).toInt = 1073741824 := rfl
  have w := c_i2l (f1 m)
  have m1 := c_lmul (f1 m).toInt64 8
  have m2 := c_ladd ((f1 m).toInt64 * 8) 8
  have r1 := rng64 ((f1 m).toInt64 * 8)
  have r2 := rng64 ((f1 m).toInt64 * 8 + 8)
  simp only [f0_21, f0_102, lw_lt, lw_gt, Int64.lt_iff_toInt_lt, ← Int32.toInt_inj, et, ec, e0]
  rw [w, e8] at m1
  rw [e8] at m2
  rw [w]
  generalize ((f1 m).toInt64 * 8 + 8).toInt = s2 at *
  generalize ((f1 m).toInt64 * 8).toInt = s1 at *
  generalize (f1 m).toInt = fm at *
  generalize m.toInt = mi at *
  by_cases h : mi < 8589934592
  · have q : mi / 8 < 1073741824 := by omega
    rw [if_pos q] at k
    rw [if_pos h, if_neg (by omega), if_neg (by omega), if_pos (by omega)]
  · have q : ¬ mi / 8 < 1073741824 := by omega
    rw [if_neg q] at k
    rw [if_neg h, if_pos k]
theorem own_law (q1 : Int64) (p2 : Int32) : f0 q1 p2 = 1 := by
  have a := c_maskL q1 9223372036854775807 63 (by decide) (by decide)
  have b := c_maskL q1 17179869183 34 (by decide) (by decide)
  simp only [f0]
  split
  · exact own_part _ _ _ (by rw [a]; omega)
  · exact own_part _ _ _ (by rw [b]; omega)
set_option maxRecDepth 65536 in
set_option maxHeartbeats 40000000 in
theorem comes_1 {Post : Tables → Env → Array Value → State → Outcome → State → Prop} (hpost : ∀ tb e args s v u, (limb_1_1.after args s (.returned v) u = true ∧ limb_1_2.after args s (.returned v) u = true ∧ True) → FrameEnd s (.returned v) u (Jvm.fieldLocs frame_1_writes args s ++ Jvm.arrayLocs frame_1_arrays args s ++ Jvm.staticLocs frame_1_statics s) 0 0 → Post tb e args s (.returned v) u) :
    ArmFor flags0 classFile x code maxLocals ret World_1 tables_1 room_1 Calls_1 rest_1 Pre_1 Post := by
  intro l hfl _ _ p e ha hc hk s m args below hf hA hF happ hP
  obtain ⟨hcalls, hrest, hpre⟩ := hP
  obtain ⟨-, -, -, hnamed, -, -, -, hat⟩ := (Spec.applies_iff hf).mp happ
  obtain ⟨hg, hn⟩ := and_e (Cond.before_iff.mp (show (Jvm.Cond.and given_1 narrow_1).before args s = true from hpre))
  obtain ⟨hcnt, g0⟩ := and_e hg
  obtain ⟨i0, g1⟩ := and_e g0
  have i1 := g1
  obtain ⟨w0, w1, rfl⟩ : ∃ w0 w1 : Value, args = #[w0, w1] := by
    have hs : args.size = 2 := by simpa [Cond.value, given_1] using hcnt
    obtain ⟨L⟩ := args
    match L, hs with
    | [w0, w1], _ => exact ⟨w0, w1, rfl⟩
  have hw := fun d (hd : d ∈ tables_1) => atoms_spec (ws := Jvm.Cond.code x code maxLocals ret :: tables_1) hat d (List.mem_cons_of_mem _ hd)
  obtain ⟨z0, e0⟩ := isL_v i0
  obtain rfl : w0 = (.long z0) := Option.some.inj e0
  obtain ⟨z1, e1⟩ := is_v i1
  obtain rfl : w1 = (.int z1) := Option.some.inj e1
  obtain ⟨n, o, h1, h2, h3, v, L, rfl, ⟨rfl, rfl, hh⟩, hq⟩ := rm0 l s _ hw tables_1 z0 z1  s.heap  p e ha hc hk s m _ below hf ((Spec.applies_iff_loose hf).mp happ).1 ⟨rfl, State.Warmed39.refl s, rfl⟩ trivial
  have hlaw := own_law z0 z1 
  refine ⟨n, _, h1, h2, h3, hpost _ _ _ _ _ _ ⟨Cond.after_iff.mpr rfl, Cond.after_iff.mpr (eq_i res_at (Term.int_eval (1)) (by rw [hlaw])), trivial⟩ ⟨hq.1, hq.2.1, (hq.2.2.sift fun y hy => by cases hy).mono (by decide) (by decide)⟩⟩
theorem main_1_1 : Claimed_1_1 := comes_1 fun _ _ _ _ _ _ h hF => ⟨h.1, hF⟩
theorem main_1_2 : Claimed_1_2 := comes_1 fun _ _ _ _ _ _ h hF => ⟨h.2.1, hF⟩
end Jvm.Pilot.@@N@@
namespace Jvm.Pilot.@@N@@
open Jvm Jvm.ClassFile Sem Op Lib Jvm.Free Jvm.Stand Jvm.Pilot.@@N@@.Jvm.D
/-! MADE BY PROGRAM (witnessworld.py) out of the Statement's table words and the real class files: 8 classes; the members and pool entries that the words name. The judged class is class 1, her method 1. -/
namespace start1
open Jvm.ClassFile
def u (s : String) : CpInfo := .utf8 (stringToUtf16 s)
/-- a pool by its gaps: so many unusable entries, then the entry; so many at the end -/
def gap : Nat → List CpInfo → List CpInfo
  | 0, r => r
  | n + 1, r => .unusable :: gap n r
def poolList (es : List (Nat × CpInfo)) (last : Nat) : List CpInfo := es.foldr (fun e r => gap e.1 (e.2 :: r)) (gap last [])
def pool (es : List (Nat × CpInfo)) (last : Nat) : Array CpInfo := ⟨poolList es last⟩
def fileOf (pool : Array CpInfo) (this : Nat) (attrs : Array Attribute := #[]) (ms : Array MethodInfo := #[]) (fl : Nat := 33) (sup : Nat := 0) (ifs : Array Nat := #[]) (fds : Array FieldInfo := #[]) : ClassFile where
  minorVersion := 0
  majorVersion := 65
  constantPool := pool
  accessFlags := fl
  thisClass := this
  superClass := sup
  interfaces := ifs
  fields := fds
  methods := ms
  attributes := attrs
def plain (name : String) (sup : Option ClassId) : Class where
  name := name
  kind := .ordinary
  loader := none
  accessFlags := 33
  super := sup
  interfaces := #[]
  cf := none
  fields := #[]
  methods := #[]
  instanceTypes := #[]
  staticTypes := #[]
  resolved := #[]
  callSites := []
  init := .initialized
  statics := none
  mirror := none

def pool0 : Array CpInfo := pool [(5, u "<init>"), (0, u "()V"), (1, .class_ 10), (1, u "java/lang/Object")] 113

def k0m0 : Method := { name := "<init>", desc := "()V", sig := { parameters := [], returnType := none }, accessFlags := 1, code := none }
/-- java/lang/Object -/
def k0 : Class := { plain "java/lang/Object" none with
  accessFlags := 33
  interfaces := #[]
  cf := some (fileOf pool0 8 #[] #[{ accessFlags := 1, nameIndex := 5, descriptorIndex := 6, attributes := #[] }] 33 0 #[] #[])
  fields := #[]
  methods := #[k0m0]
  instanceTypes := #[]
  staticTypes := #[]
  resolved := Array.replicate 124 none
  statics := none }

def pool1 : Array CpInfo := pool [(2, .class_ 4), (1, u "java/lang/Object"), (0, u "<init>"), (0, u "()V"), (0, .long 17179869183), (3, .long 9223372036854775807), (1, .methodref 14 15), (0, .class_ 16), (0, .nameAndType 17 18), (0, u "com/example/cartouche/cartouche/cli/RecordLines"), (0, u "maxLength"), (0, u "(J)I"), (0, .long 1073741824), (1, .long 8), (1, .integer 1073741824), (0, .class_ 25), (0, u "com/example/cartouche/cartouche/cli/RecordLinesMaxLengthPinLaw"), (2, u "law"), (0, u "(JI)Z")] 3

def k1m0 : Method := { name := "<init>", desc := "()V", sig := { parameters := [], returnType := none }, accessFlags := 1, code := none }
def k1c1 : Code := { maxStack := 6, maxLocals := 12, code := code, exceptionTable := #[], attributes := #[] }
def k1m1 : Method := { name := "law", desc := "(JI)Z", sig := { parameters := [.long, .int], returnType := some .boolean }, accessFlags := 9, code := some k1c1 }
/-- com/example/cartouche/cartouche/cli/RecordLinesMaxLengthPinLaw -/
def k1 : Class := { plain "com/example/cartouche/cartouche/cli/RecordLinesMaxLengthPinLaw" (some 0) with
  accessFlags := 49
  interfaces := #[]
  cf := some (fileOf pool1 24 #[] #[{ accessFlags := 1, nameIndex := 5, descriptorIndex := 6, attributes := #[] }, { accessFlags := 9, nameIndex := 28, descriptorIndex := 29, attributes := #[] }] 49 2 #[] #[])
  fields := #[]
  methods := #[k1m0, k1m1]
  instanceTypes := #[]
  staticTypes := #[]
  resolved := Array.replicate 33 none
  statics := none }

def pool2 : Array CpInfo := pool [(2, .class_ 4), (1, u "java/lang/Object"), (2, .class_ 8), (0, u "com/example/cartouche/cartouche/cli/RecordLines"), (3, u "buffer"), (0, u "[B"), (2, u "in"), (0, u "Ljava/io/InputStream;"), (2, u "maxLength"), (0, u "I"), (2, u "handler"), (0, u "Lcom/example/cartouche/cartouche/cli/RecordLines$Handler;"), (0, .long 1073741824), (1, .long 8), (1, .methodref 31 32), (0, .class_ 33), (0, .nameAndType 34 35), (0, u "java/lang/Math"), (0, u "min"), (0, u "(JJ)J"), (11, u "scanned"), (2, u "end"), (10, u "start"), (9, u "BYTE_ORDER_MARK"), (8, u "ended"), (0, u "Z"), (20, u "number"), (0, u "J"), (5, .class_ 111), (1, u "com/example/cartouche/cartouche/cli/RecordLines$Handler"), (6, u "MAX_LENGTH"), (2, u "HEAP_PER_BYTE"), (1, u "CHUNK"), (0, u "LINE_FEED"), (0, u "B"), (1, u "CARRIAGE_RETURN"), (3, u "(J)I")] 10

def k2c0 : Code := { maxStack := 6, maxLocals := 2, code := prog_15_method_2_code, exceptionTable := #[], attributes := #[] }
def k2m0 : Method := { name := "maxLength", desc := "(J)I", sig := { parameters := [.long], returnType := some .int }, accessFlags := 8, code := some k2c0 }
/-- com/example/cartouche/cartouche/cli/RecordLines -/
def k2 : Class := { plain "com/example/cartouche/cartouche/cli/RecordLines" (some 0) with
  accessFlags := 48
  interfaces := #[]
  cf := some (fileOf pool2 7 #[.nestMembers #[109]] #[{ accessFlags := 8, nameIndex := 20, descriptorIndex := 131, attributes := #[] }] 48 2 #[] #[{ accessFlags := 24, nameIndex := 118, descriptorIndex := 21, attributes := #[] }, { accessFlags := 26, nameIndex := 121, descriptorIndex := 21, attributes := #[] }, { accessFlags := 26, nameIndex := 123, descriptorIndex := 21, attributes := #[] }, { accessFlags := 26, nameIndex := 124, descriptorIndex := 125, attributes := #[] }, { accessFlags := 26, nameIndex := 127, descriptorIndex := 125, attributes := #[] }, { accessFlags := 26, nameIndex := 71, descriptorIndex := 13, attributes := #[] }, { accessFlags := 18, nameIndex := 16, descriptorIndex := 17, attributes := #[] }, { accessFlags := 18, nameIndex := 20, descriptorIndex := 21, attributes := #[] }, { accessFlags := 18, nameIndex := 24, descriptorIndex := 25, attributes := #[] }, { accessFlags := 2, nameIndex := 12, descriptorIndex := 13, attributes := #[] }, { accessFlags := 2, nameIndex := 61, descriptorIndex := 21, attributes := #[] }, { accessFlags := 2, nameIndex := 47, descriptorIndex := 21, attributes := #[] }, { accessFlags := 2, nameIndex := 50, descriptorIndex := 21, attributes := #[] }, { accessFlags := 2, nameIndex := 102, descriptorIndex := 103, attributes := #[] }, { accessFlags := 2, nameIndex := 80, descriptorIndex := 81, attributes := #[] }])
  fields := #[{ name := "MAX_LENGTH", type := .int, accessFlags := 24, slot := 0, constantValue := 0 }, { name := "HEAP_PER_BYTE", type := .int, accessFlags := 26, slot := 1, constantValue := 0 }, { name := "CHUNK", type := .int, accessFlags := 26, slot := 2, constantValue := 0 }, { name := "LINE_FEED", type := .byte, accessFlags := 26, slot := 3, constantValue := 0 }, { name := "CARRIAGE_RETURN", type := .byte, accessFlags := 26, slot := 4, constantValue := 0 }, { name := "BYTE_ORDER_MARK", type := (.array .byte), accessFlags := 26, slot := 5, constantValue := 0 }, { name := "in", type := (.object "java/io/InputStream"), accessFlags := 18, slot := 0, constantValue := 0 }, { name := "maxLength", type := .int, accessFlags := 18, slot := 1, constantValue := 0 }, { name := "handler", type := (.object "com/example/cartouche/cartouche/cli/RecordLines$Handler"), accessFlags := 18, slot := 2, constantValue := 0 }, { name := "buffer", type := (.array .byte), accessFlags := 2, slot := 3, constantValue := 0 }, { name := "start", type := .int, accessFlags := 2, slot := 4, constantValue := 0 }, { name := "scanned", type := .int, accessFlags := 2, slot := 5, constantValue := 0 }, { name := "end", type := .int, accessFlags := 2, slot := 6, constantValue := 0 }, { name := "number", type := .long, accessFlags := 2, slot := 7, constantValue := 0 }, { name := "ended", type := .boolean, accessFlags := 2, slot := 8, constantValue := 0 }]
  methods := #[k2m0]
  instanceTypes := #[(.object "java/io/InputStream"), .int, (.object "com/example/cartouche/cartouche/cli/RecordLines$Handler"), (.array .byte), .int, .int, .int, .long, .boolean]
  staticTypes := #[.int, .int, .int, .byte, .byte, (.array .byte)]
  resolved := Array.replicate 142 none
  statics := none }

def pool3 : Array CpInfo := pool [(1, .class_ 2), (0, u "java/lang/Math"), (1, .class_ 6), (1, u "java/lang/Object"), (0, u "<init>"), (0, u "()V"), (89, .class_ 100), (1, u "java/lang/Math$RandomNumberGeneratorHolder"), (20, u "(JJ)J"), (50, u "negativeZeroFloatBits"), (0, u "J"), (2, u "negativeZeroDoubleBits"), (24, u "min"), (43, u "$assertionsDisabled"), (0, u "Z"), (91, u "twoToTheDoubleScaleDown"), (0, u "D"), (4, u "twoToTheDoubleScaleUp"), (9, u "E"), (3, u "PI"), (2, u "TAU"), (2, u "DEGREES_TO_RADIANS"), (0, u "RADIANS_TO_DEGREES")] 94

def k3m0 : Method := { name := "<init>", desc := "()V", sig := { parameters := [], returnType := none }, accessFlags := 2, code := none }
def k3c1 : Code := { maxStack := 4, maxLocals := 4, code := jdk_29_method_70_code, exceptionTable := #[], attributes := #[] }
def k3m1 : Method := { name := "min", desc := "(JJ)J", sig := { parameters := [.long, .long], returnType := some .long }, accessFlags := 9, code := some k3c1 }
/-- java/lang/Math -/
def k3 : Class := { plain "java/lang/Math" (some 0) with
  accessFlags := 49
  interfaces := #[]
  cf := some (fileOf pool3 1 #[.nestMembers #[98]] #[{ accessFlags := 2, nameIndex := 7, descriptorIndex := 8, attributes := #[] }, { accessFlags := 9, nameIndex := 201, descriptorIndex := 121, attributes := #[] }] 49 4 #[] #[{ accessFlags := 25, nameIndex := 354, descriptorIndex := 339, attributes := #[] }, { accessFlags := 25, nameIndex := 358, descriptorIndex := 339, attributes := #[] }, { accessFlags := 25, nameIndex := 361, descriptorIndex := 339, attributes := #[] }, { accessFlags := 26, nameIndex := 364, descriptorIndex := 339, attributes := #[] }, { accessFlags := 26, nameIndex := 365, descriptorIndex := 339, attributes := #[] }, { accessFlags := 26, nameIndex := 172, descriptorIndex := 173, attributes := #[] }, { accessFlags := 26, nameIndex := 176, descriptorIndex := 173, attributes := #[] }, { accessFlags := 8, nameIndex := 344, descriptorIndex := 339, attributes := #[] }, { accessFlags := 8, nameIndex := 338, descriptorIndex := 339, attributes := #[] }, { accessFlags := 4120, nameIndex := 245, descriptorIndex := 246, attributes := #[] }])
  fields := #[{ name := "E", type := .double, accessFlags := 25, slot := 0, constantValue := 0 }, { name := "PI", type := .double, accessFlags := 25, slot := 1, constantValue := 0 }, { name := "TAU", type := .double, accessFlags := 25, slot := 2, constantValue := 0 }, { name := "DEGREES_TO_RADIANS", type := .double, accessFlags := 26, slot := 3, constantValue := 0 }, { name := "RADIANS_TO_DEGREES", type := .double, accessFlags := 26, slot := 4, constantValue := 0 }, { name := "negativeZeroFloatBits", type := .long, accessFlags := 26, slot := 5, constantValue := 0 }, { name := "negativeZeroDoubleBits", type := .long, accessFlags := 26, slot := 6, constantValue := 0 }, { name := "twoToTheDoubleScaleUp", type := .double, accessFlags := 8, slot := 7, constantValue := 0 }, { name := "twoToTheDoubleScaleDown", type := .double, accessFlags := 8, slot := 8, constantValue := 0 }, { name := "$assertionsDisabled", type := .boolean, accessFlags := 4120, slot := 9, constantValue := 0 }]
  methods := #[k3m0, k3m1]
  instanceTypes := #[]
  staticTypes := #[.double, .double, .double, .double, .double, .long, .long, .double, .double, .boolean]
  resolved := Array.replicate 460 none
  statics := none }

def pool4 : Array CpInfo := pool [(1, u "java/lang/Cloneable"), (0, .class_ 1), (0, u "java/lang/Object"), (0, .class_ 3)] 3

/-- java/lang/Cloneable -/
def k4 : Class := { plain "java/lang/Cloneable" (some 0) with
  accessFlags := 1537
  interfaces := #[]
  cf := some (fileOf pool4 2 #[] #[] 1537 4 #[] #[])
  fields := #[]
  methods := #[]
  instanceTypes := #[]
  staticTypes := #[]
  resolved := Array.replicate 8 none
  statics := none }

def pool5 : Array CpInfo := pool [(1, u "java/io/Serializable"), (0, .class_ 1), (0, u "java/lang/Object"), (0, .class_ 3)] 3

/-- java/io/Serializable -/
def k5 : Class := { plain "java/io/Serializable" (some 0) with
  accessFlags := 1537
  interfaces := #[]
  cf := some (fileOf pool5 2 #[] #[] 1537 4 #[] #[])
  fields := #[]
  methods := #[]
  instanceTypes := #[]
  staticTypes := #[]
  resolved := Array.replicate 8 none
  statics := none }

/-- the primitive byte -/
def k6 : Class := { plain "byte" none with kind := .primitive 'B', accessFlags := 0x411 }
/-- [B -/
def k7 : Class := { plain "[B" (some 0) with kind := .array 6 .byte, interfaces := #[4, 5], accessFlags := 1041 }

def heap : Heap := #[]
def classes : Array Class := #[k0, k1, k2, k3, k4, k5, k6, k7]
def interned : List (Array UInt16 × Addr) := []
def slotsUsed : Nat := 0
def theMethod : MethodId := ⟨1, 1⟩
def args0 : Array Value := #[.long 9, .int 5]
def aboutOver (below : List Frame) : State where
  vm := { classes := classes, interned := interned.toArray }
  heap := heap
  slotsUsed := slotsUsed
  threads := #[{ frames := .invoking theMethod args0 :: below }]
def below0 : List Frame := [.native { method := ⟨0, 0⟩, args := #[] }]
def about1 : State := aboutOver below0
def p0 : Program := .bare "" "" ""
def e0 : Env := launch0.env 0 0 0
theorem w_frames : about1.frames = Frame.invoking theMethod args0 :: below0 := rfl
set_option maxRecDepth 65536 in
theorem w_args : argsFit about1.vm theMethod args0 = true := by decide +kernel
set_option maxRecDepth 65536 in
theorem w_heap : heapFits about1 = true := by decide +kernel
set_option maxRecDepth 65536 in
theorem w_runnable : about1.curStatus? = some .runnable := by decide +kernel
set_option maxRecDepth 65536 in
theorem w_alone : about1.alone = true := by decide +kernel
set_option maxRecDepth 65536 in
theorem w_named : about1.methodNamed? x = some theMethod := by decide +kernel
set_option maxRecDepth 65536 in
theorem w_hears : about1.hears theMethod below0 = true := by decide +kernel
set_option maxRecDepth 65536 in
theorem w_ripe : about1.ripe theMethod args0 below0 = true := by decide +kernel
theorem w_running : about1.status = .running := rfl
set_option maxRecDepth 65536 in
theorem w_room : about1.hasRoom e0.platform room_1 = true :=
  launch0.hasRoom_least _ room_1 (by decide +kernel) (by decide +kernel) (by decide +kernel) (by decide +kernel) (by decide +kernel) (by decide +kernel)
theorem allAtoms_all (ts : List Jvm.Cond) (a : Array Jvm.Value) (st : Jvm.State) : (allAtoms ts).before a st = ts.all (fun c => c.before a st) := by
  induction ts with
  | nil => rfl
  | cons c t ih =>
    show (Jvm.Cond.and c (allAtoms t)).before a st = _
    rw [Jvm.Cond.before_and, ih, List.all_cons]
def words1 : List Jvm.Cond := Jvm.Cond.code x code maxLocals ret :: tables_1
/-- a 'code' word, met by the world's own term for the bytes: nothing is compared byte by byte -/
theorem code_word {y : MethodName} {bytes : ByteArray} {mx : Nat} {rt : Option FieldType} {a : Array Value} {s : State} {m : MethodId} {meth : Method} {c : Code} (h1 : s.methodNamed? y = some m) (h2 : s.vm.method? m = some meth) (h3 : meth.code = some c) (h4 : c.code = bytes)
    (h5 : (c.maxLocals == mx && c.exceptionTable.isEmpty && decide (c.maxStack ≤ mostOperands) && decide (meth.sig.returnType = rt) && !meth.locks && decide (parseMethodDescriptor y.desc = some meth.sig)) = true) : (Jvm.Cond.code y bytes mx rt).before a s = true := by
  simp only [Bool.and_eq_true, beq_iff_eq, Bool.not_eq_true', decide_eq_true_eq] at h5
  obtain ⟨⟨⟨⟨⟨g1, g2⟩, g3⟩, g4⟩, g5⟩, g6⟩ := h5
  simp [Cond.before, Cond.holds, Cond.value, h1, h2, h3, h4, g1, g2, g3, g4, g5, g6]
def isCode : Jvm.Cond → Bool
  | .code _ _ _ _ => true
  | _ => false
theorem all_split {L : List Jvm.Cond} {P : Jvm.Cond → Bool} (h1 : L.all (fun c => isCode c || P c) = true) (h2 : ∀ c ∈ L.filter isCode, P c = true) : L.all P = true := by
  refine List.all_eq_true.mpr fun c hc => ?_
  have h := List.all_eq_true.mp h1 c hc
  rcases Bool.eq_false_or_eq_true (isCode c) with hi | hi
  · exact h2 c (List.mem_filter.mpr ⟨hc, hi⟩)
  · simpa [hi] using h
set_option maxRecDepth 65536 in
theorem w_c0 : (Jvm.Cond.code x code maxLocals ret).before args0 about1 = true := code_word (m := ⟨1, 1⟩) (meth := k1m1) (c := k1c1) (by decide +kernel) rfl rfl rfl (by decide +kernel)
set_option maxRecDepth 65536 in
theorem w_c1 : (Jvm.Cond.code ({ cls := "com/example/cartouche/cartouche/cli/RecordLines", name := "maxLength", desc := "(J)I" } : Jvm.MethodName) prog_15_method_2_code (2 : Nat) (Option.some Jvm.ClassFile.FieldType.int)).before args0 about1 = true := code_word (m := ⟨2, 0⟩) (meth := k2m0) (c := k2c0) (by decide +kernel) rfl rfl rfl (by decide +kernel)
set_option maxRecDepth 65536 in
theorem w_c2 : (Jvm.Cond.code ({ cls := "java/lang/Math", name := "min", desc := "(JJ)J" } : Jvm.MethodName) jdk_29_method_70_code (4 : Nat) (Option.some Jvm.ClassFile.FieldType.long)).before args0 about1 = true := code_word (m := ⟨3, 1⟩) (meth := k3m1) (c := k3c1) (by decide +kernel) rfl rfl rfl (by decide +kernel)
def codes1 : List Jvm.Cond := [Jvm.Cond.code x code maxLocals ret, Jvm.Cond.code ({ cls := "com/example/cartouche/cartouche/cli/RecordLines", name := "maxLength", desc := "(J)I" } : Jvm.MethodName) prog_15_method_2_code (2 : Nat) (Option.some Jvm.ClassFile.FieldType.int), Jvm.Cond.code ({ cls := "java/lang/Math", name := "min", desc := "(JJ)J" } : Jvm.MethodName) jdk_29_method_70_code (4 : Nat) (Option.some Jvm.ClassFile.FieldType.long)]
set_option maxRecDepth 65536 in
theorem codes_eq : words1.filter isCode = codes1 := rfl
theorem w_codes : ∀ c ∈ words1.filter isCode, c.before args0 about1 = true := by
  rw [codes_eq]
  intro c hc
  simp only [codes1, List.mem_cons, List.not_mem_nil, or_false] at hc
  rcases hc with rfl | rfl | rfl
  · exact w_c0
  · exact w_c1
  · exact w_c2
set_option maxRecDepth 65536 in
theorem w_t1 : words1.all (fun c => isCode c || c.before args0 about1) = true := by decide +kernel
theorem w_tables : (allAtoms (Jvm.Cond.code x code maxLocals ret :: tables_1)).before args0 about1 = true := by
  rw [allAtoms_all]
  show words1.all (fun c => c.before args0 about1) = true
  refine all_split ?_ w_codes
  rw [w_t1]
set_option maxRecDepth 65536 in
theorem w_case : (Jvm.Cond.and given_1 narrow_1).before args0 about1 = true := by decide +kernel
theorem w_applies : (headSpec (Jvm.Cond.code x code maxLocals ret :: tables_1) room_1).applies x e0.platform about1 = true :=
  (Spec.applies_iff w_frames).mpr ⟨w_running, w_runnable, w_alone, w_named, w_hears, w_ripe, w_room, w_tables⟩
theorem atStart : AtStart classFile x code maxLocals ret World_1 tables_1 room_1 Calls_1 rest_1 Pre_1 launch0 p0 e0 about1 theMethod args0 below0 :=
  ⟨lists_1, trivial, launch0.admits_env _ _ _, launch0.least_env, fairChoices_fair.cas, fairChoices_fair.clock, w_frames, w_args, w_heap, w_applies, trivial, trivial, w_case⟩
end start1
theorem witness_1 : WitnessClaimed_1 := ⟨start1.p0, start1.e0, start1.about1, start1.theMethod, start1.args0, start1.below0, start1.atStart⟩
end Jvm.Pilot.@@N@@
