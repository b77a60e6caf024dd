import JvmDerived
import JvmDerived.Pilot.@@N@@Statement
import JvmDerived.Pilot.@@N@@Code
set_option linter.unusedVariables false
set_option linter.unusedSimpArgs false
namespace Jvm.RoadKit
open Sem ClassFile Op Lib Jvm.Stand Jvm.Free Jvm.LawKit
section Own
variable {p : Program} {l : Launch} {e : Env} {R : Room} {s : State} {m : MethodId} {args : Array Value} {below : List Frame} {meth : Method} {c : Code} {T : State} {locs : List Loc} {cells slots : Nat} {Z : State} {a0 : Array Value} {h : Heap}
/-- what is left of a body: from the frame g on it ends, and Q holds of what it returns, the heap and the places written -/
def Goes (p : Program) (e : Env) (below : List Frame) (s : State) (K N : Nat) (Q : Option Value → Heap → List Loc → Prop) (T : State) (g : JFrame) : Prop :=
  ∃ s₂ o, Steps p.tables e below (T.setTop g) s₂ ∧ s₂.status = .running ∧ Ended s₂ below o ∧ ∃ v L, o = .returned v ∧ Q v s₂.heap L ∧ FrameEnd s o s₂ L K N
theorem Goes.step {K N : Nat} {Q : Option Value → Heap → List Loc → Prop} {T' : State} {g g' : JFrame} (k : ∀ t, Steps p.tables e below (T'.setTop g') t → Steps p.tables e below (T.setTop g) t) (h : Goes p e below s K N Q T' g') : Goes p e below s K N Q T g := by
  obtain ⟨s₂, o, h1, h2⟩ := h
  exact ⟨s₂, o, k _ h1, h2⟩
theorem Goes.jump {K N : Nat} {Q : Option Value → Heap → List Loc → Prop} {T' : State} {g g' : JFrame} (k : Steps p.tables e below (T.setTop g) (T'.setTop g')) (h : Goes p e below s K N Q T' g') : Goes p e below s K N Q T g :=
  Goes.step (fun _ q => k.trans q) h
theorem Goes.ite {K N : Nat} {α : Type} {Q : α → Option Value → Heap → List Loc → Prop} {g : JFrame} {a b : α} {d : Prop} [Decidable d] (h1 : d → Goes p e below s K N (Q a) T g) (h2 : ¬ d → Goes p e below s K N (Q b) T g) : Goes p e below s K N (Q (if d then a else b)) T g := by
  split
  · next q => exact h1 q
  · next q => exact h2 q
theorem Goes.imp {K N : Nat} {Q Q' : Option Value → Heap → List Loc → Prop} {g : JFrame} (q : ∀ v h L, Q v h L → Q' v h L) (h : Goes p e below s K N Q T g) : Goes p e below s K N Q' T g := by
  obtain ⟨s₂, o, h1, h2, h3, v, L, h4, h5, h6⟩ := h
  exact ⟨s₂, o, h1, h2, h3, v, L, h4, q _ _ _ h5, h6⟩
theorem retI (X : Stand p l e R s m args below meth c T locs cells slots) (hx : p.tables.exec = Jvm.exec) {pc : Nat} {Ls : Array Slot} {z : Int32} {rest : List Value} (hret : meth.sig.returnType = some .int) (hd : decode c.code pc = .ok (.ireturn, 1)) {fs : List Frame}
    (hl : ∀ (f : JFrame) (acts : List Action), f.method = m → f.locked = none → f.entered = [] → (doReturn e (T.setTop f) acts (some (.int z))).1 = T.setFrames fs) : Steps p.tables e below (T.setTop (mkF m pc Ls (.int z :: rest))) (T.setFrames fs) := by
  have hm' : T.vm.method? m = some meth := X.method'
  have hn : narrow .int (.int z) = .int z := rfl
  show Steps p.tables e below (T.setTop { method := m, pc := pc, locals := Ls, stack := _ :: rest, locked := none }) _
  jvm_step X.here [X.here.top, hx, hd, hm', hret, hn]
  first | (intro acts; rw [hl _ acts rfl rfl rfl]) | rw [hl _ _ rfl rfl rfl]
  exact Steps.refl _
theorem retJ (X : Stand p l e R s m args below meth c T locs cells slots) (hx : p.tables.exec = Jvm.exec) {pc : Nat} {Ls : Array Slot} {z : Int64} {rest : List Value} (hret : meth.sig.returnType = some .long) (hd : decode c.code pc = .ok (.lreturn, 1)) {fs : List Frame}
    (hl : ∀ (f : JFrame) (acts : List Action), f.method = m → f.locked = none → f.entered = [] → (doReturn e (T.setTop f) acts (some (.long z))).1 = T.setFrames fs) : Steps p.tables e below (T.setTop (mkF m pc Ls (.long z :: rest))) (T.setFrames fs) :=
  retOut X hx hret rfl (Or.inr (Or.inl ⟨rfl, rfl, z, rfl⟩)) hd hl
theorem Goes.outI (X : Stand p l e R s m args below meth c T locs cells slots) (hx : p.tables.exec = Jvm.exec) (hlk : meth.locks = false) (hret : meth.sig.returnType = some .int) {pc : Nat} (hd : decode c.code pc = .ok (.ireturn, 1)) {Ls : Array Slot} {z : Int32} {rest : List Value} {K N : Nat} {Q : Option Value → Heap → List Loc → Prop}
    (hq : Q (some (.int z)) T.heap locs) (hk : cells ≤ K) (hn : slots ≤ N) : Goes p e below s K N Q T (mkF m pc Ls (.int z :: rest)) := by
  obtain ⟨fs, hr, hrun, hended, hW, hsame⟩ := X.leave (v := some (.int z)) (fun h => by rw [hret] at h; cases h) hlk
  exact ⟨_, _, retI X hx hret hd hr, hrun, hended, _, _, rfl, hq, ⟨_, rfl⟩, hW, hsame.mono hk hn⟩
theorem Goes.outJ (X : Stand p l e R s m args below meth c T locs cells slots) (hx : p.tables.exec = Jvm.exec) (hlk : meth.locks = false) (hret : meth.sig.returnType = some .long) {pc : Nat} (hd : decode c.code pc = .ok (.lreturn, 1)) {Ls : Array Slot} {z : Int64} {rest : List Value} {K N : Nat} {Q : Option Value → Heap → List Loc → Prop}
    (hq : Q (some (.long z)) T.heap locs) (hk : cells ≤ K) (hn : slots ≤ N) : Goes p e below s K N Q T (mkF m pc Ls (.long z :: rest)) := by
  obtain ⟨fs, hr, hrun, hended, hW, hsame⟩ := X.leave (v := some (.long z)) (fun h => by rw [hret] at h; cases h) hlk
  exact ⟨_, _, retJ X hx hret hd hr, hrun, hended, _, _, rfl, hq, ⟨_, rfl⟩, hW, hsame.mono hk hn⟩
theorem Goes.outN (X : Stand p l e R s m args below meth c T locs cells slots) (hx : p.tables.exec = Jvm.exec) (hlk : meth.locks = false) {t : FieldType} (hret : meth.sig.returnType = some t) (ht : t = .boolean ∨ t = .byte ∨ t = .char ∨ t = .short) {pc : Nat} (hd : decode c.code pc = .ok (.ireturn, 1)) {Ls : Array Slot} {z : Int32} {rest : List Value} {K N : Nat} {Q : Option Value → Heap → List Loc → Prop}
    (hq : Q (some (.int (nar t z))) T.heap locs) (hk : cells ≤ K) (hn : slots ≤ N) : Goes p e below s K N Q T (mkF m pc Ls (.int z :: rest)) := by
  obtain ⟨fs, hr, hrun, hended, hW, hsame⟩ := X.leave (v := some (.int (nar t z))) (fun h => by rw [hret] at h; cases h) hlk
  exact ⟨_, _, retN X hx hret ht hd hr, hrun, hended, _, _, rfl, hq, ⟨_, rfl⟩, hW, hsame.mono hk hn⟩
theorem Goes.outV (X : Stand p l e R s m args below meth c T locs cells slots) (hx : p.tables.exec = Jvm.exec) (hlk : meth.locks = false) (hret : meth.sig.returnType = none) {pc : Nat} (hd : decode c.code pc = .ok (.return_, 1)) {Ls : Array Slot} {K N : Nat} {Q : Option Value → Heap → List Loc → Prop}
    (hq : Q none T.heap locs) (hk : cells ≤ K) (hn : slots ≤ N) : Goes p e below s K N Q T (mkF m pc Ls []) := by
  obtain ⟨fs, hr, hrun, hended, hW, hsame⟩ := X.leave (v := none) (fun _ => rfl) hlk
  exact ⟨_, _, X.returnOut hx hret hd hr, hrun, hended, _, _, rfl, hq, ⟨_, rfl⟩, hW, hsame.mono hk hn⟩
theorem Goes.outR (X : Stand p l e R s m args below meth c T locs cells slots) (hx : p.tables.exec = Jvm.exec) (hlk : meth.locks = false) {t : FieldType} (hret : meth.sig.returnType = some t) (ht : t.isReference = true) {w : Value} (hw : w.isRef = true) {pc : Nat} (hd : decode c.code pc = .ok (.areturn, 1)) {Ls : Array Slot} {K N : Nat} {Q : Option Value → Heap → List Loc → Prop}
    (hq : Q (some w) T.heap locs) (hk : cells ≤ K) (hn : slots ≤ N) : Goes p e below s K N Q T (mkF m pc Ls [w]) := by
  obtain ⟨fs, hr, hrun, hended, hW, hsame⟩ := X.leave (v := some w) (fun h => by rw [hret] at h; cases h) hlk
  exact ⟨_, _, X.areturnOut hx hw hret ht hd hr, hrun, hended, _, _, rfl, hq, ⟨_, rfl⟩, hW, hsame.mono hk hn⟩
/-- a body that returns v and leaves the heap as it was -/
def PV (h0 : Heap) (r : Value) (v : Option Value) (h : Heap) (L : List Loc) : Prop := v = some r ∧ L = [] ∧ h = h0
def PI (h0 : Heap) (r : Int32) (v : Option Value) (h : Heap) (L : List Loc) : Prop := PV h0 (.int r) v h L
def PJ (h0 : Heap) (r : Int64) (v : Option Value) (h : Heap) (L : List Loc) : Prop := PV h0 (.long r) v h L
def PA (h0 : Heap) (r : Addr) (v : Option Value) (h : Heap) (L : List Loc) : Prop := PV h0 (.ref r) v h L
/-- a reference that may be null -/
def ov : Option Addr → Value
  | none => .null
  | some b => .ref b
def PO (h0 : Heap) (r : Option Addr) (v : Option Value) (h : Heap) (L : List Loc) : Prop := PV h0 (ov r) v h L
theorem ov_cat (o : Option Addr) : (ov o).category = 1 := by cases o <;> rfl
theorem ov_inj {a b : Option Addr} : (ov a = ov b) = (a = b) := by cases a <;> cases b <;> simp [ov]
theorem ov_ref (o : Option Addr) : (ov o).isRef = true := by cases o <;> rfl
/-- a virtual call of a body that leaves the heap as it was -/
theorem callPureV (X : Stand p l e R s m args below meth c T locs cells slots) (hx : p.tables.exec = Jvm.exec) (hZ : Z.Warmed39 s.vm) {own C : String} {index : Nat} {y z : MethodName} {bytes : ByteArray} {maxL : Nat} {ret : Option FieldType} (hown : s.vm.findClass own = some m.cls)
    (w1 : (Cond.methodLink own index y).before a0 Z = true) (w2 : (Cond.declares y).before a0 Z = true) (w3 : (Cond.selects C y z).before a0 Z = true) (w4 : (Cond.instanceMethod z).before a0 Z = true) (w5 : (Cond.code z bytes maxL ret).before a0 Z = true) (w6 : (Cond.initialized z.cls).before a0 Z = true) (hnf : NotFace s y) (hy : y.cls ≠ "java/lang/invoke/MethodHandle" ∧ y.cls ≠ "java/lang/invoke/VarHandle")
    {F W0 W : Nat} {b : Addr} {argsL rest : List Value} {r : Value} {Q : Option Value → Heap → List Loc → Prop} (hQ : ∀ v h' L, Q v h' L → PV h r v h' L)
    (hM : MetFree l z (head1 [Cond.code z bytes maxL ret] ({ frames := F, cells := 0, slots := 0, locals := W0 } : Room)) (fun a U => a = (.ref b :: argsL).toArray ∧ Z.Warmed39 U.vm ∧ U.heap = h) (fun _ _ _ _ _ => True) (fun _ U o U' => ∃ v L, o = .returned v ∧ Q v U'.heap L ∧ FrameEnd U o U' L ({ frames := F, cells := 0, slots := 0, locals := W0 } : Room).cells ({ frames := F, cells := 0, slots := 0, locals := W0 } : Room).slots))
    (hf : F + 1 ≤ R.frames) (hl : W + (maxL + 11) + W0 ≤ R.locals) (hc : cells ≤ R.cells) (hs : slots ≤ R.slots) (eT : T.heap = h) (E : Exa Z h b C) {g : JFrame} (hg : g.method = m) (hsize : g.locals.size = c.maxLocals) (hlen : ∀ sig, parseMethodDescriptor y.desc = some sig → argsL.length = sig.parameters.length)
    (hstack : g.stack = argsL.reverse ++ .ref b :: rest) (hW : 2 * g.monitorRoom + (rest.map fun v => v.category).sum ≤ W) (hd : decode c.code g.pc = .ok (.invokevirtual index, 3)) :
    ∃ T', Stand p l e R s m args below meth c T' locs cells slots ∧ T'.heap = h ∧ ∀ target, Steps p.tables e below (T'.setTop { g with pc := g.pc + 3, stack := r :: rest }) target → Steps p.tables e below (T.setTop g) target := by
  obtain ⟨cq, kq, qa, qb, qc⟩ := isOf hZ eT E
  obtain ⟨_, _, ⟨T18, L18, k18, n18⟩, -, X18, ⟨Lc, hq, l18, y18, z18⟩, st⟩ := X.virtualBack hx hown (mvT hZ w1) (mvT hZ w2) hnf (mvT hZ w3) (mvT hZ w4) hy (backOf (W := W) hM hZ w5 w6 hf hl) qa qc hg hsize (Steps.refl _) hlen hstack hW hd (fun _ _ => ⟨rfl, eT, hc, hs⟩)
  dsimp only [Pt.U, Pt.locs, Pt.cells, Pt.slots] at X18 l18 y18 z18 st hq
  subst l18 y18 z18
  obtain ⟨rfl, rfl, e18⟩ := hQ _ _ _ hq
  rw [List.append_nil] at X18
  exact ⟨T18, X18, e18, fun _ k => st.trans k⟩
/-- a static call of a body that leaves the heap as it was -/
theorem callPure (X : Stand p l e R s m args below meth c T locs cells slots) (hx : p.tables.exec = Jvm.exec) (hZ : Z.Warmed39 s.vm) {own : String} {index : Nat} {y : MethodName} {bytes : ByteArray} {maxL : Nat} {ret : Option FieldType} (hown : s.vm.findClass own = some m.cls)
    (w1 : (Cond.methodLink own index y).before a0 Z = true) (w2 : (Cond.static y).before a0 Z = true) (w3 : (Cond.initialized y.cls).before a0 Z = true) (w4 : (Cond.code y bytes maxL ret).before a0 Z = true) (hy : y.cls ≠ "java/lang/invoke/MethodHandle" ∧ y.cls ≠ "java/lang/invoke/VarHandle")
    {F W0 W : Nat} {argsL rest : List Value} {r : Value} {Q : Option Value → Heap → List Loc → Prop} (hQ : ∀ v h' L, Q v h' L → PV h r v h' L)
    (hM : MetFree l y (head1 [Cond.code y bytes maxL ret] ({ frames := F, cells := 0, slots := 0, locals := W0 } : Room)) (fun a U => a = argsL.toArray ∧ Z.Warmed39 U.vm ∧ U.heap = h) (fun _ _ _ _ _ => True) (fun _ U o U' => ∃ v L, o = .returned v ∧ Q v U'.heap L ∧ FrameEnd U o U' L ({ frames := F, cells := 0, slots := 0, locals := W0 } : Room).cells ({ frames := F, cells := 0, slots := 0, locals := W0 } : Room).slots))
    (hf : F + 1 ≤ R.frames) (hl : W + (maxL + 11) + W0 ≤ R.locals) (hc : cells ≤ R.cells) (hs : slots ≤ R.slots) (eT : T.heap = h) {g : JFrame} (hg : g.method = m) (hsize : g.locals.size = c.maxLocals) (hlen : ∀ sig, parseMethodDescriptor y.desc = some sig → argsL.length = sig.parameters.length)
    (hstack : g.stack = argsL.reverse ++ rest) (hW : 2 * g.monitorRoom + (rest.map fun v => v.category).sum ≤ W) (hd : decode c.code g.pc = .ok (.invokestatic index, 3)) :
    ∃ T', Stand p l e R s m args below meth c T' locs cells slots ∧ T'.heap = h ∧ ∀ target, Steps p.tables e below (T'.setTop { g with pc := g.pc + 3, stack := r :: rest }) target → Steps p.tables e below (T.setTop g) target := by
  obtain ⟨_, _, ⟨T18, L18, k18, n18⟩, -, X18, ⟨Lc, hq, l18, y18, z18⟩, st⟩ := Jvm.LawKit.callS X hx hown (mvT hZ w1) (mvT hZ w2) (mvT hZ w3) (mvT hZ w4) hy (backOf (W := W) hM hZ w4 w3 hf hl) hg hsize hlen hstack hW hd (fun _ _ => ⟨rfl, eT, hc, hs⟩)
  dsimp only [Pt.U, Pt.locs, Pt.cells, Pt.slots] at X18 l18 y18 z18 st hq
  subst l18 y18 z18
  obtain ⟨rfl, rfl, e18⟩ := hQ _ _ _ hq
  rw [List.append_nil] at X18
  exact ⟨T18, X18, e18, st⟩
end Own
end Jvm.RoadKit
namespace Jvm.RoadKit
open Sem ClassFile Op Lib Jvm.Stand Jvm.Free Jvm.LawKit
theorem own_static {s : State} {args : Array Value} {C n d K : String} (h : (Cond.exactly (.static C n d) K).value args s none s [] = some true) (w1 : (Cond.initialized C).before args s = true) (w2 : (Cond.laysStatic C n d).before args s = true) :
    ∃ x, (Term.static C n d).eval args s none [] s = some (.ref x) ∧ Exa s s.heap x K ∧ Sta s s.heap C n d (.ref x) := by
  obtain ⟨x, ex⟩ := exa_v h
  exact ⟨x, ex, Exa.start ex h, Sta.start ex (Or.inr ⟨w1, w2⟩)⟩
theorem own_fieldR {s : State} {args : Array Value} {C n d : String} {t u : Term} {a b : Addr} (h : (Cond.eq (.field t C n d) u).value args s none s [] = some true) (et : t.eval args s none [] s = some (.ref a)) (eu : u.eval args s none [] s = some (.ref b)) : Fld s s.heap a C n d (.ref b) := by
  obtain ⟨x, y, hx, hy, k1, k2⟩ := cmp_v (Or.inl h)
  cases eu.symm.trans hy
  have r : x.isRef = true := by
    cases x with
    | null => rfl
    | ref z => rfl
    | _ => exact absurd k2 (by simp [Kin, Value.isRef])
  have q := gotT (eq_R hx eu r rfl) h
  subst q
  rw [fld_at et] at hx
  exact Fld.start hx
theorem own_fieldN {s : State} {args : Array Value} {C n d : String} {t : Term} {a : Addr} (h : (Cond.eq (.field t C n d) .null).value args s none s [] = some true) (et : t.eval args s none [] s = some (.ref a)) : Fld s s.heap a C n d .null := by
  have hx := null_v h
  rw [fld_at et] at hx
  exact Fld.start hx
theorem own_fieldI {s : State} {args : Array Value} {C n d : String} {t : Term} {a : Addr} {k : Int32} (h : (Cond.eq (.field t C n d) (.int k)).value args s none s [] = some true) (et : t.eval args s none [] s = some (.ref a)) : Fld s s.heap a C n d (.int k) := by
  obtain ⟨x, y, hx, hy, k1, k2⟩ := cmp_v (Or.inl h)
  cases (Term.int_eval k).symm.trans hy
  obtain ⟨z, rfl⟩ := k2
  have q := gotT (Cond.eq_ints hx (Term.int_eval k)) h
  subst q
  rw [fld_at et] at hx
  exact Fld.start hx
end Jvm.RoadKit
namespace Jvm.Pilot.@@N@@
open Jvm Jvm.ClassFile Sem Op Lib Jvm.Free Jvm.Stand Jvm.LawKit Jvm.RoadKit Bundle Jvm.Pilot.@@N@@.Jvm.D
theorem d1_0 : decode prog_50_method_4_code 0 = .ok (.iload_n 1, 1) := by decide +kernel
theorem d1_1 : decode prog_50_method_4_code 1 = .ok (.ifCond .eq 10, 3) := by decide +kernel
theorem d1_4 : decode prog_50_method_4_code 4 = .ok (.aload_n 0, 1) := by decide +kernel
theorem d1_5 : decode prog_50_method_4_code 5 = .ok (.getfield 38, 3) := by decide +kernel
theorem d1_8 : decode prog_50_method_4_code 8 = .ok (.goto 7, 3) := by decide +kernel
theorem d1_11 : decode prog_50_method_4_code 11 = .ok (.aload_n 0, 1) := by decide +kernel
theorem d1_12 : decode prog_50_method_4_code 12 = .ok (.getfield 42, 3) := by decide +kernel
theorem d1_15 : decode prog_50_method_4_code 15 = .ok (.areturn, 1) := by decide +kernel
theorem pn_1 : plainName "com/example/decompose/decompose/model/analysis/Hierarchy" = true := by first | (simp [plainName, overriddenIn]; done) | decide +kernel
theorem ef_1 (m : MethodId) (a1 : Addr) (p2 : Int32) : entryFrame m #[(.ref a1), (.int p2)] 2 = mkF m 0 #[.val (.ref a1), .val (.int p2)] [] := by first | (simp [entryFrame, mkF, argsToLocals, Value.category]; done) | rfl
def f1 (a1 : Addr) (p2 : Int32) (t : Addr) (u : Addr) : Addr := (if (p2 = (0 : Int32)) then u else t)
set_option maxRecDepth 65536 in
set_option maxHeartbeats 40000000 in
theorem rm1 (l : Launch) (Z : State) (a0 : Array Value) (hw : ∀ d ∈ tables_1, d.before a0 Z = true) (ws : List Jvm.Cond) (a1 : Addr) (p2 : Int32) (t : Addr) (u : Addr) (h0 : Heap) (Ft : Fld Z h0 a1 "com/example/decompose/decompose/model/analysis/Hierarchy" "totallyOrdered" "Lcom/example/decompose/decompose/model/analysis/Complexity;" (.ref t)) (Fu : Fld Z h0 a1 "com/example/decompose/decompose/model/analysis/Hierarchy" "partiallyOrdered" "Lcom/example/decompose/decompose/model/analysis/Complexity;" (.ref u)) :
    MetFree l (⟨"com/example/decompose/decompose/model/analysis/Hierarchy", "planExistence", "(Z)Lcom/example/decompose/decompose/model/analysis/Complexity;"⟩ : MethodName) (head1 (Jvm.Cond.code (⟨"com/example/decompose/decompose/model/analysis/Hierarchy", "planExistence", "(Z)Lcom/example/decompose/decompose/model/analysis/Complexity;"⟩ : MethodName) prog_50_method_4_code 2 (some (.object "com/example/decompose/decompose/model/analysis/Complexity")) :: ws) ({ frames := 0, cells := 0, slots := 0, locals := 0 } : Room)) (fun a U => a = #[(.ref a1), (.int p2)] ∧ Z.Warmed39 U.vm ∧ U.heap = h0) (fun _ _ _ _ _ => True) (fun _ U o U' => ∃ v L, o = .returned v ∧ PA h0 (f1 a1 p2 t u) v U'.heap L ∧ FrameEnd U o U' L ({ frames := 0, cells := 0, slots := 0, locals := 0 } : Room).cells ({ frames := 0, cells := 0, slots := 0, locals := 0 } : Room).slots) := by
  refine MetFree.of_bodySF (plainFor_of_name pn_1) hisR ?_
  intro p e s m args below meth c s₁ Bd hml0 hP hK
  obtain ⟨rfl, hZ, hh⟩ := hP
  have hx := Bd.exec
  have hby := Bd.bytes
  have hlk := Bd.notSynchronized
  have hml : c.maxLocals = 2 := hml0
  have hown : s.vm.findClass "com/example/decompose/decompose/model/analysis/Hierarchy" = some m.cls := findClass_of_methodNamed Bd.named
  have X0 : Stand p l e ({ frames := 0, cells := 0, slots := 0, locals := 0 } : Room) s m #[(.ref a1), (.int p2)] below meth c s₁ [] 0 0 := Stand.of_body Bd
  have e0 : s₁.heap = h0 := by rw [← hh, Bd.state]; rfl
  show Goes p e below s ({ frames := 0, cells := 0, slots := 0, locals := 0 } : Room).cells ({ frames := 0, cells := 0, slots := 0, locals := 0 } : Room).slots (PA h0 (f1 a1 p2 t u)) s₁ (entryFrame m #[(.ref a1), (.int p2)] 2)
  refine Goes.step (fun t k => castTop (ef_1 m a1 p2) k) ?_
  refine Goes.step (fun _ k => XS.iloadN X0.here hx rfl (hb hby d1_0) rfl k) ?_
  show Goes p e below s _ _ _ s₁ (mkF m 1 #[.val (.ref a1), .val (.int p2)] [(.int p2)])
  refine Goes.ite (Q := PA h0) (fun hc1 => ?_) (fun hc1 => ?_)
  · refine Goes.step (fun _ k => XS.ifYes X0.here hx rfl (pc0 := 1) (pc' := 11) rfl (hb hby d1_1) rfl ((if0 _ _).trans (teq hc1).1) (by decide) (by decide) k) ?_
    show Goes p e below s _ _ _ s₁ (mkF m 11 #[.val (.ref a1), .val (.int p2)] [])
    refine Goes.step (fun _ k => XS.aloadN X0.here hx rfl (hb hby d1_11) rfl rfl k) ?_
    show Goes p e below s _ _ _ s₁ (mkF m 12 #[.val (.ref a1), .val (.int p2)] [(.ref a1)])
    obtain ⟨T1, X1, e1, st1⟩ := getF X0 hx hZ hown (host := "") (Or.inl (hw _ (List.mem_of_getElem? (i := 30) rfl))) Via.refl e0 Fu (g := (mkF m 12 #[.val (.ref a1), .val (.int p2)] [(.ref a1)])) rfl rfl (hb hby d1_12)
    refine Goes.step st1 ?_
    show Goes p e below s _ _ _ T1 (mkF m 15 #[.val (.ref a1), .val (.int p2)] [(.ref u)])
    exact Goes.outR X1 hx hlk Bd.returns rfl rfl (hb hby d1_15) ⟨rfl, rfl, e1⟩ (by decide) (by decide)
  · refine Goes.step (fun _ k => XS.ifNo X0.here hx rfl (hb hby d1_1) rfl ((if0 _ _).trans (feq hc1).1) k) ?_
    show Goes p e below s _ _ _ s₁ (mkF m 4 #[.val (.ref a1), .val (.int p2)] [])
    refine Goes.step (fun _ k => XS.aloadN X0.here hx rfl (hb hby d1_4) rfl rfl k) ?_
    show Goes p e below s _ _ _ s₁ (mkF m 5 #[.val (.ref a1), .val (.int p2)] [(.ref a1)])
    obtain ⟨T2, X2, e2, st2⟩ := getF X0 hx hZ hown (host := "") (Or.inl (hw _ (List.mem_of_getElem? (i := 14) rfl))) Via.refl e0 Ft (g := (mkF m 5 #[.val (.ref a1), .val (.int p2)] [(.ref a1)])) rfl rfl (hb hby d1_5)
    refine Goes.step st2 ?_
    show Goes p e below s _ _ _ T2 (mkF m 8 #[.val (.ref a1), .val (.int p2)] [(.ref t)])
    refine Goes.step (fun _ k => XS.goto X2.here hx rfl (pc0 := 8) (pc' := 15) rfl (hb hby d1_8) (by decide) (by decide) k) ?_
    show Goes p e below s _ _ _ T2 (mkF m 15 #[.val (.ref a1), .val (.int p2)] [(.ref t)])
    exact Goes.outR X2 hx hlk Bd.returns rfl rfl (hb hby d1_15) ⟨rfl, rfl, e2⟩ (by decide) (by decide)
theorem pd_0_0 : parseMethodDescriptor "(Z)Lcom/example/decompose/decompose/model/analysis/Complexity;" = some ⟨[.boolean], some (.object "com/example/decompose/decompose/model/analysis/Complexity")⟩ := by decide +kernel
theorem pn_0 : plainName "com/example/decompose/decompose/model/analysis/HierarchyPlanExistencePinLaw" = true := by first | (simp [plainName, overriddenIn]; done) | decide +kernel
theorem ef_0 (m : MethodId) (p1 : Int32) (p2 : Int32) : entryFrame m #[(.int p1), (.int p2)] maxLocals = mkF m 0 #[.val (.int p1), .val (.int p2), .unset, .unset, .unset, .unset, .unset, .unset, .unset] [] := by first | (simp [entryFrame, mkF, argsToLocals, Value.category, maxLocals]; done) | rfl
def f0_148 (p1 : Int32) (p2 : Int32) (aNONE : Addr) (aACYCLIC : Addr) (aREGULAR : Addr) (aTAIL_RECURSIVE : Addr) (aARBITRARY : Addr) (cIN_P : Addr) (cNP : Addr) (cPSPACE : Addr) (cNEXPTIME : Addr) (cEXPTIME : Addr) (cUNDECIDABLE : Addr) (v3_148 : Int32) (v4_148 : Addr) (v5_148 : Addr) (v6_148 : Addr) (v7_148 : Addr) (v8_148 : Addr) : Int32 := (if (v7_148 = v8_148) then (1 : Int32) else (0 : Int32))
def f0_18 (p1 : Int32) (p2 : Int32) (aNONE : Addr) (aACYCLIC : Addr) (aREGULAR : Addr) (aTAIL_RECURSIVE : Addr) (aARBITRARY : Addr) (cIN_P : Addr) (cNP : Addr) (cPSPACE : Addr) (cNEXPTIME : Addr) (cEXPTIME : Addr) (cUNDECIDABLE : Addr) (t0_18 : Int32) : Int32 := (if (((p1 &&& (2147483647 : Int32)) % (5 : Int32)) = (0 : Int32)) then (if (t0_18 = (0 : Int32)) then (f0_148 p1 p2 aNONE aACYCLIC aREGULAR aTAIL_RECURSIVE aARBITRARY cIN_P cNP cPSPACE cNEXPTIME cEXPTIME cUNDECIDABLE t0_18 aNONE cIN_P cNP (f1 aNONE t0_18 cIN_P cNP) cNP) else (f0_148 p1 p2 aNONE aACYCLIC aREGULAR aTAIL_RECURSIVE aARBITRARY cIN_P cNP cPSPACE cNEXPTIME cEXPTIME cUNDECIDABLE t0_18 aNONE cIN_P cNP (f1 aNONE t0_18 cIN_P cNP) cIN_P)) else (if (((p1 &&& (2147483647 : Int32)) % (5 : Int32)) = (1 : Int32)) then (if (t0_18 = (0 : Int32)) then (f0_148 p1 p2 aNONE aACYCLIC aREGULAR aTAIL_RECURSIVE aARBITRARY cIN_P cNP cPSPACE cNEXPTIME cEXPTIME cUNDECIDABLE t0_18 aACYCLIC cPSPACE cNEXPTIME (f1 aACYCLIC t0_18 cPSPACE cNEXPTIME) cNEXPTIME) else (f0_148 p1 p2 aNONE aACYCLIC aREGULAR aTAIL_RECURSIVE aARBITRARY cIN_P cNP cPSPACE cNEXPTIME cEXPTIME cUNDECIDABLE t0_18 aACYCLIC cPSPACE cNEXPTIME (f1 aACYCLIC t0_18 cPSPACE cNEXPTIME) cPSPACE)) else (if (((p1 &&& (2147483647 : Int32)) % (5 : Int32)) = (2 : Int32)) then (if (t0_18 = (0 : Int32)) then (f0_148 p1 p2 aNONE aACYCLIC aREGULAR aTAIL_RECURSIVE aARBITRARY cIN_P cNP cPSPACE cNEXPTIME cEXPTIME cUNDECIDABLE t0_18 aREGULAR cPSPACE cPSPACE (f1 aREGULAR t0_18 cPSPACE cPSPACE) cPSPACE) else (f0_148 p1 p2 aNONE aACYCLIC aREGULAR aTAIL_RECURSIVE aARBITRARY cIN_P cNP cPSPACE cNEXPTIME cEXPTIME cUNDECIDABLE t0_18 aREGULAR cPSPACE cPSPACE (f1 aREGULAR t0_18 cPSPACE cPSPACE) cPSPACE)) else (if (((p1 &&& (2147483647 : Int32)) % (5 : Int32)) = (3 : Int32)) then (if (t0_18 = (0 : Int32)) then (f0_148 p1 p2 aNONE aACYCLIC aREGULAR aTAIL_RECURSIVE aARBITRARY cIN_P cNP cPSPACE cNEXPTIME cEXPTIME cUNDECIDABLE t0_18 aTAIL_RECURSIVE cPSPACE cEXPTIME (f1 aTAIL_RECURSIVE t0_18 cPSPACE cEXPTIME) cEXPTIME) else (f0_148 p1 p2 aNONE aACYCLIC aREGULAR aTAIL_RECURSIVE aARBITRARY cIN_P cNP cPSPACE cNEXPTIME cEXPTIME cUNDECIDABLE t0_18 aTAIL_RECURSIVE cPSPACE cEXPTIME (f1 aTAIL_RECURSIVE t0_18 cPSPACE cEXPTIME) cPSPACE)) else (if (t0_18 = (0 : Int32)) then (f0_148 p1 p2 aNONE aACYCLIC aREGULAR aTAIL_RECURSIVE aARBITRARY cIN_P cNP cPSPACE cNEXPTIME cEXPTIME cUNDECIDABLE t0_18 aARBITRARY cEXPTIME cUNDECIDABLE (f1 aARBITRARY t0_18 cEXPTIME cUNDECIDABLE) cUNDECIDABLE) else (f0_148 p1 p2 aNONE aACYCLIC aREGULAR aTAIL_RECURSIVE aARBITRARY cIN_P cNP cPSPACE cNEXPTIME cEXPTIME cUNDECIDABLE t0_18 aARBITRARY cEXPTIME cUNDECIDABLE (f1 aARBITRARY t0_18 cEXPTIME cUNDECIDABLE) cEXPTIME))))))
def f0 (p1 : Int32) (p2 : Int32) (aNONE : Addr) (aACYCLIC : Addr) (aREGULAR : Addr) (aTAIL_RECURSIVE : Addr) (aARBITRARY : Addr) (cIN_P : Addr) (cNP : Addr) (cPSPACE : Addr) (cNEXPTIME : Addr) (cEXPTIME : Addr) (cUNDECIDABLE : Addr) : Int32 := (if ((p2 &&& (1 : Int32)) = (0 : Int32)) then (f0_18 p1 p2 aNONE aACYCLIC aREGULAR aTAIL_RECURSIVE aARBITRARY cIN_P cNP cPSPACE cNEXPTIME cEXPTIME cUNDECIDABLE (0 : Int32)) else (f0_18 p1 p2 aNONE aACYCLIC aREGULAR aTAIL_RECURSIVE aARBITRARY cIN_P cNP cPSPACE cNEXPTIME cEXPTIME cUNDECIDABLE (1 : Int32)))
set_option maxRecDepth 65536 in
set_option maxHeartbeats 40000000 in
theorem rm0 (l : Launch) (Z : State) (a0 : Array Value) (hw : ∀ d ∈ tables_1, d.before a0 Z = true) (ws : List Jvm.Cond) (p1 : Int32) (p2 : Int32) (aNONE : Addr) (aACYCLIC : Addr) (aREGULAR : Addr) (aTAIL_RECURSIVE : Addr) (aARBITRARY : Addr) (cIN_P : Addr) (cNP : Addr) (cPSPACE : Addr) (cNEXPTIME : Addr) (cEXPTIME : Addr) (cUNDECIDABLE : Addr) (h0 : Heap) (S_NONE : Sta Z h0 "com/example/decompose/decompose/model/analysis/Hierarchy" "NONE" "Lcom/example/decompose/decompose/model/analysis/Hierarchy;" (.ref aNONE)) (S_ACYCLIC : Sta Z h0 "com/example/decompose/decompose/model/analysis/Hierarchy" "ACYCLIC" "Lcom/example/decompose/decompose/model/analysis/Hierarchy;" (.ref aACYCLIC)) (S_REGULAR : Sta Z h0 "com/example/decompose/decompose/model/analysis/Hierarchy" "REGULAR" "Lcom/example/decompose/decompose/model/analysis/Hierarchy;" (.ref aREGULAR)) (S_TAIL_RECURSIVE : Sta Z h0 "com/example/decompose/decompose/model/analysis/Hierarchy" "TAIL_RECURSIVE" "Lcom/example/decompose/decompose/model/analysis/Hierarchy;" (.ref aTAIL_RECURSIVE)) (S_ARBITRARY : Sta Z h0 "com/example/decompose/decompose/model/analysis/Hierarchy" "ARBITRARY" "Lcom/example/decompose/decompose/model/analysis/Hierarchy;" (.ref aARBITRARY)) (S_IN_P : Sta Z h0 "com/example/decompose/decompose/model/analysis/Complexity" "IN_P" "Lcom/example/decompose/decompose/model/analysis/Complexity;" (.ref cIN_P)) (S_NP : Sta Z h0 "com/example/decompose/decompose/model/analysis/Complexity" "NP" "Lcom/example/decompose/decompose/model/analysis/Complexity;" (.ref cNP)) (S_PSPACE : Sta Z h0 "com/example/decompose/decompose/model/analysis/Complexity" "PSPACE" "Lcom/example/decompose/decompose/model/analysis/Complexity;" (.ref cPSPACE)) (S_NEXPTIME : Sta Z h0 "com/example/decompose/decompose/model/analysis/Complexity" "NEXPTIME" "Lcom/example/decompose/decompose/model/analysis/Complexity;" (.ref cNEXPTIME)) (S_EXPTIME : Sta Z h0 "com/example/decompose/decompose/model/analysis/Complexity" "EXPTIME" "Lcom/example/decompose/decompose/model/analysis/Complexity;" (.ref cEXPTIME)) (S_UNDECIDABLE : Sta Z h0 "com/example/decompose/decompose/model/analysis/Complexity" "UNDECIDABLE" "Lcom/example/decompose/decompose/model/analysis/Complexity;" (.ref cUNDECIDABLE)) (E_NONE : Exa Z h0 aNONE "com/example/decompose/decompose/model/analysis/Hierarchy") (E_ACYCLIC : Exa Z h0 aACYCLIC "com/example/decompose/decompose/model/analysis/Hierarchy") (E_REGULAR : Exa Z h0 aREGULAR "com/example/decompose/decompose/model/analysis/Hierarchy") (E_TAIL_RECURSIVE : Exa Z h0 aTAIL_RECURSIVE "com/example/decompose/decompose/model/analysis/Hierarchy") (E_ARBITRARY : Exa Z h0 aARBITRARY "com/example/decompose/decompose/model/analysis/Hierarchy") (T_NONE : Fld Z h0 aNONE "com/example/decompose/decompose/model/analysis/Hierarchy" "totallyOrdered" "Lcom/example/decompose/decompose/model/analysis/Complexity;" (.ref cIN_P)) (U_NONE : Fld Z h0 aNONE "com/example/decompose/decompose/model/analysis/Hierarchy" "partiallyOrdered" "Lcom/example/decompose/decompose/model/analysis/Complexity;" (.ref cNP)) (T_ACYCLIC : Fld Z h0 aACYCLIC "com/example/decompose/decompose/model/analysis/Hierarchy" "totallyOrdered" "Lcom/example/decompose/decompose/model/analysis/Complexity;" (.ref cPSPACE)) (U_ACYCLIC : Fld Z h0 aACYCLIC "com/example/decompose/decompose/model/analysis/Hierarchy" "partiallyOrdered" "Lcom/example/decompose/decompose/model/analysis/Complexity;" (.ref cNEXPTIME)) (T_REGULAR : Fld Z h0 aREGULAR "com/example/decompose/decompose/model/analysis/Hierarchy" "totallyOrdered" "Lcom/example/decompose/decompose/model/analysis/Complexity;" (.ref cPSPACE)) (U_REGULAR : Fld Z h0 aREGULAR "com/example/decompose/decompose/model/analysis/Hierarchy" "partiallyOrdered" "Lcom/example/decompose/decompose/model/analysis/Complexity;" (.ref cPSPACE)) (T_TAIL_RECURSIVE : Fld Z h0 aTAIL_RECURSIVE "com/example/decompose/decompose/model/analysis/Hierarchy" "totallyOrdered" "Lcom/example/decompose/decompose/model/analysis/Complexity;" (.ref cPSPACE)) (U_TAIL_RECURSIVE : Fld Z h0 aTAIL_RECURSIVE "com/example/decompose/decompose/model/analysis/Hierarchy" "partiallyOrdered" "Lcom/example/decompose/decompose/model/analysis/Complexity;" (.ref cEXPTIME)) (T_ARBITRARY : Fld Z h0 aARBITRARY "com/example/decompose/decompose/model/analysis/Hierarchy" "totallyOrdered" "Lcom/example/decompose/decompose/model/analysis/Complexity;" (.ref cEXPTIME)) (U_ARBITRARY : Fld Z h0 aARBITRARY "com/example/decompose/decompose/model/analysis/Hierarchy" "partiallyOrdered" "Lcom/example/decompose/decompose/model/analysis/Complexity;" (.ref cUNDECIDABLE)) :
    MetFree l x (head1 (Jvm.Cond.code x code maxLocals ret :: ws) room_1) (fun a U => a = #[(.int p1), (.int p2)] ∧ Z.Warmed39 U.vm ∧ U.heap = h0) (fun _ _ _ _ _ => True) (fun _ U o U' => ∃ v L, o = .returned v ∧ PI h0 (f0 p1 p2 aNONE aACYCLIC aREGULAR aTAIL_RECURSIVE aARBITRARY cIN_P cNP cPSPACE cNEXPTIME cEXPTIME cUNDECIDABLE) v U'.heap L ∧ FrameEnd U o U' L room_1.cells room_1.slots) := by
  refine MetFree.of_bodySF (plainFor_of_name pn_0) hisR ?_
  intro p e s m args below meth c s₁ Bd hml0 hP hK
  obtain ⟨rfl, hZ, hh⟩ := hP
  have hx := Bd.exec
  have hby := Bd.bytes
  have hlk := Bd.notSynchronized
  have hml : c.maxLocals = 9 := hml0
  have hown : s.vm.findClass "com/example/decompose/decompose/model/analysis/HierarchyPlanExistencePinLaw" = some m.cls := findClass_of_methodNamed Bd.named
  have X0 : Stand p l e room_1 s m #[(.int p1), (.int p2)] below meth c s₁ [] 0 0 := Stand.of_body Bd
  have e0 : s₁.heap = h0 := by rw [← hh, Bd.state]; rfl
  have B148 : ∀ (T : State), Stand p l e room_1 s m #[(.int p1), (.int p2)] below meth c T [] 0 0 → T.heap = h0 → ∀ (v3_148 : Int32) (v4_148 : Addr) (v5_148 : Addr) (v6_148 : Addr) (v7_148 : Addr) (v8_148 : Addr), Goes p e below s room_1.cells room_1.slots (PI h0 (f0_148 p1 p2 aNONE aACYCLIC aREGULAR aTAIL_RECURSIVE aARBITRARY cIN_P cNP cPSPACE cNEXPTIME cEXPTIME cUNDECIDABLE v3_148 v4_148 v5_148 v6_148 v7_148 v8_148)) T (mkF m 148 #[.val (.int p1), .val (.int p2), .val (.int ((p1 &&& (2147483647 : Int32)) % (5 : Int32))), .val (.int v3_148), .val (.ref v4_148), .val (.ref v5_148), .val (.ref v6_148), .val (.ref v7_148), .val (.ref v8_148)] []) := by
    intro T X eT v3_148 v4_148 v5_148 v6_148 v7_148 v8_148
    refine Goes.step (fun _ k => XS.aload X.here hx rfl (hb hby at_148) rfl rfl k) ?_
    show Goes p e below s _ _ _ T (mkF m 150 #[.val (.int p1), .val (.int p2), .val (.int ((p1 &&& (2147483647 : Int32)) % (5 : Int32))), .val (.int v3_148), .val (.ref v4_148), .val (.ref v5_148), .val (.ref v6_148), .val (.ref v7_148), .val (.ref v8_148)] [(.ref v7_148)])
    refine Goes.step (fun _ k => XS.aload X.here hx rfl (hb hby at_150) rfl rfl k) ?_
    show Goes p e below s _ _ _ T (mkF m 152 #[.val (.int p1), .val (.int p2), .val (.int ((p1 &&& (2147483647 : Int32)) % (5 : Int32))), .val (.int v3_148), .val (.ref v4_148), .val (.ref v5_148), .val (.ref v6_148), .val (.ref v7_148), .val (.ref v8_148)] [(.ref v8_148), (.ref v7_148)])
    refine Goes.ite (Q := PI h0) (fun hc152 => ?_) (fun hc152 => ?_)
    · refine Goes.step (fun _ k => acmp X hx rfl rfl rfl (pc0 := 152) (pc' := 155) (same := true) rfl (hb hby at_152) rfl (by simp [hc152]) (by decide) (by decide) k) ?_
      show Goes p e below s _ _ _ T (mkF m 155 #[.val (.int p1), .val (.int p2), .val (.int ((p1 &&& (2147483647 : Int32)) % (5 : Int32))), .val (.int v3_148), .val (.ref v4_148), .val (.ref v5_148), .val (.ref v6_148), .val (.ref v7_148), .val (.ref v8_148)] [])
      refine Goes.step (fun _ k => XS.iconst X.here hx rfl (hb hby at_155) k) ?_
      show Goes p e below s _ _ _ T (mkF m 156 #[.val (.int p1), .val (.int p2), .val (.int ((p1 &&& (2147483647 : Int32)) % (5 : Int32))), .val (.int v3_148), .val (.ref v4_148), .val (.ref v5_148), .val (.ref v6_148), .val (.ref v7_148), .val (.ref v8_148)] [(.int (1 : Int32))])
      refine Goes.step (fun _ k => XS.goto X.here hx rfl (pc0 := 156) (pc' := 160) rfl (hb hby at_156) (by decide) (by decide) k) ?_
      show Goes p e below s _ _ _ T (mkF m 160 #[.val (.int p1), .val (.int p2), .val (.int ((p1 &&& (2147483647 : Int32)) % (5 : Int32))), .val (.int v3_148), .val (.ref v4_148), .val (.ref v5_148), .val (.ref v6_148), .val (.ref v7_148), .val (.ref v8_148)] [(.int (1 : Int32))])
      exact Goes.outN X hx hlk (t := .boolean) Bd.returns (by simp) (hb hby at_160) ⟨rfl, rfl, eT⟩ (by decide) (by decide)
    · refine Goes.step (fun _ k => acmp X hx rfl rfl rfl (pc0 := 152) (pc' := 159) (same := false) rfl (hb hby at_152) rfl (by simp [hc152]) (by decide) (by decide) k) ?_
      show Goes p e below s _ _ _ T (mkF m 159 #[.val (.int p1), .val (.int p2), .val (.int ((p1 &&& (2147483647 : Int32)) % (5 : Int32))), .val (.int v3_148), .val (.ref v4_148), .val (.ref v5_148), .val (.ref v6_148), .val (.ref v7_148), .val (.ref v8_148)] [])
      refine Goes.step (fun _ k => XS.iconst X.here hx rfl (hb hby at_159) k) ?_
      show Goes p e below s _ _ _ T (mkF m 160 #[.val (.int p1), .val (.int p2), .val (.int ((p1 &&& (2147483647 : Int32)) % (5 : Int32))), .val (.int v3_148), .val (.ref v4_148), .val (.ref v5_148), .val (.ref v6_148), .val (.ref v7_148), .val (.ref v8_148)] [(.int (0 : Int32))])
      exact Goes.outN X hx hlk (t := .boolean) Bd.returns (by simp) (hb hby at_160) ⟨rfl, rfl, eT⟩ (by decide) (by decide)
  have B18 : ∀ (T : State), Stand p l e room_1 s m #[(.int p1), (.int p2)] below meth c T [] 0 0 → T.heap = h0 → ∀ (t0_18 : Int32), Goes p e below s room_1.cells room_1.slots (PI h0 (f0_18 p1 p2 aNONE aACYCLIC aREGULAR aTAIL_RECURSIVE aARBITRARY cIN_P cNP cPSPACE cNEXPTIME cEXPTIME cUNDECIDABLE t0_18)) T (mkF m 18 #[.val (.int p1), .val (.int p2), .val (.int ((p1 &&& (2147483647 : Int32)) % (5 : Int32))), .unset, .unset, .unset, .unset, .unset, .unset] [(.int t0_18)]) := by
    intro T X eT t0_18
    refine Goes.step (fun _ k => XS.istoreN X.here hx rfl (hb hby at_18) rfl (l' := #[.val (.int p1), .val (.int p2), .val (.int ((p1 &&& (2147483647 : Int32)) % (5 : Int32))), .val (.int t0_18), .unset, .unset, .unset, .unset, .unset]) rfl k) ?_
    show Goes p e below s _ _ _ T (mkF m 19 #[.val (.int p1), .val (.int p2), .val (.int ((p1 &&& (2147483647 : Int32)) % (5 : Int32))), .val (.int t0_18), .unset, .unset, .unset, .unset, .unset] [])
    refine Goes.step (fun _ k => XS.iloadN X.here hx rfl (hb hby at_19) rfl k) ?_
    show Goes p e below s _ _ _ T (mkF m 20 #[.val (.int p1), .val (.int p2), .val (.int ((p1 &&& (2147483647 : Int32)) % (5 : Int32))), .val (.int t0_18), .unset, .unset, .unset, .unset, .unset] [(.int ((p1 &&& (2147483647 : Int32)) % (5 : Int32)))])
    refine Goes.ite (Q := PI h0) (fun hc20 => ?_) (fun hc20 => ?_)
    · refine Goes.step (fun _ k => XS.ifNo X.here hx rfl (hb hby at_20) rfl ((if0 _ _).trans (teq hc20).2) k) ?_
      show Goes p e below s _ _ _ T (mkF m 23 #[.val (.int p1), .val (.int p2), .val (.int ((p1 &&& (2147483647 : Int32)) % (5 : Int32))), .val (.int t0_18), .unset, .unset, .unset, .unset, .unset] [])
      obtain ⟨T1, X1, e1, st1⟩ := getS2 X hx hZ hown (host := "") (Or.inl (hw _ (List.mem_of_getElem? (i := 1) rfl))) Via.refl eT S_NONE (g := (mkF m 23 #[.val (.int p1), .val (.int p2), .val (.int ((p1 &&& (2147483647 : Int32)) % (5 : Int32))), .val (.int t0_18), .unset, .unset, .unset, .unset, .unset] [])) rfl (hb hby at_23)
      refine Goes.step st1 ?_
      show Goes p e below s _ _ _ T1 (mkF m 26 #[.val (.int p1), .val (.int p2), .val (.int ((p1 &&& (2147483647 : Int32)) % (5 : Int32))), .val (.int t0_18), .unset, .unset, .unset, .unset, .unset] [(.ref aNONE)])
      refine Goes.step (fun _ k => XS.astore X1.here hx rfl (hb hby at_26) rfl rfl (l' := #[.val (.int p1), .val (.int p2), .val (.int ((p1 &&& (2147483647 : Int32)) % (5 : Int32))), .val (.int t0_18), .val (.ref aNONE), .unset, .unset, .unset, .unset]) rfl k) ?_
      show Goes p e below s _ _ _ T1 (mkF m 28 #[.val (.int p1), .val (.int p2), .val (.int ((p1 &&& (2147483647 : Int32)) % (5 : Int32))), .val (.int t0_18), .val (.ref aNONE), .unset, .unset, .unset, .unset] [])
      obtain ⟨T2, X2, e2, st2⟩ := getS2 X1 hx hZ hown (host := "") (Or.inl (hw _ (List.mem_of_getElem? (i := 4) rfl))) Via.refl e1 S_IN_P (g := (mkF m 28 #[.val (.int p1), .val (.int p2), .val (.int ((p1 &&& (2147483647 : Int32)) % (5 : Int32))), .val (.int t0_18), .val (.ref aNONE), .unset, .unset, .unset, .unset] [])) rfl (hb hby at_28)
      refine Goes.step st2 ?_
      show Goes p e below s _ _ _ T2 (mkF m 31 #[.val (.int p1), .val (.int p2), .val (.int ((p1 &&& (2147483647 : Int32)) % (5 : Int32))), .val (.int t0_18), .val (.ref aNONE), .unset, .unset, .unset, .unset] [(.ref cIN_P)])
      refine Goes.step (fun _ k => XS.astore X2.here hx rfl (hb hby at_31) rfl rfl (l' := #[.val (.int p1), .val (.int p2), .val (.int ((p1 &&& (2147483647 : Int32)) % (5 : Int32))), .val (.int t0_18), .val (.ref aNONE), .val (.ref cIN_P), .unset, .unset, .unset]) rfl k) ?_
      show Goes p e below s _ _ _ T2 (mkF m 33 #[.val (.int p1), .val (.int p2), .val (.int ((p1 &&& (2147483647 : Int32)) % (5 : Int32))), .val (.int t0_18), .val (.ref aNONE), .val (.ref cIN_P), .unset, .unset, .unset] [])
      obtain ⟨T3, X3, e3, st3⟩ := getS2 X2 hx hZ hown (host := "") (Or.inl (hw _ (List.mem_of_getElem? (i := 7) rfl))) Via.refl e2 S_NP (g := (mkF m 33 #[.val (.int p1), .val (.int p2), .val (.int ((p1 &&& (2147483647 : Int32)) % (5 : Int32))), .val (.int t0_18), .val (.ref aNONE), .val (.ref cIN_P), .unset, .unset, .unset] [])) rfl (hb hby at_33)
      refine Goes.step st3 ?_
      show Goes p e below s _ _ _ T3 (mkF m 36 #[.val (.int p1), .val (.int p2), .val (.int ((p1 &&& (2147483647 : Int32)) % (5 : Int32))), .val (.int t0_18), .val (.ref aNONE), .val (.ref cIN_P), .unset, .unset, .unset] [(.ref cNP)])
      refine Goes.step (fun _ k => XS.astore X3.here hx rfl (hb hby at_36) rfl rfl (l' := #[.val (.int p1), .val (.int p2), .val (.int ((p1 &&& (2147483647 : Int32)) % (5 : Int32))), .val (.int t0_18), .val (.ref aNONE), .val (.ref cIN_P), .val (.ref cNP), .unset, .unset]) rfl k) ?_
      show Goes p e below s _ _ _ T3 (mkF m 38 #[.val (.int p1), .val (.int p2), .val (.int ((p1 &&& (2147483647 : Int32)) % (5 : Int32))), .val (.int t0_18), .val (.ref aNONE), .val (.ref cIN_P), .val (.ref cNP), .unset, .unset] [])
      refine Goes.step (fun _ k => XS.goto X3.here hx rfl (pc0 := 38) (pc' := 125) rfl (hb hby at_38) (by decide) (by decide) k) ?_
      show Goes p e below s _ _ _ T3 (mkF m 125 #[.val (.int p1), .val (.int p2), .val (.int ((p1 &&& (2147483647 : Int32)) % (5 : Int32))), .val (.int t0_18), .val (.ref aNONE), .val (.ref cIN_P), .val (.ref cNP), .unset, .unset] [])
      refine Goes.step (fun _ k => XS.aload X3.here hx rfl (hb hby at_125) rfl rfl k) ?_
      show Goes p e below s _ _ _ T3 (mkF m 127 #[.val (.int p1), .val (.int p2), .val (.int ((p1 &&& (2147483647 : Int32)) % (5 : Int32))), .val (.int t0_18), .val (.ref aNONE), .val (.ref cIN_P), .val (.ref cNP), .unset, .unset] [(.ref aNONE)])
      refine Goes.step (fun _ k => XS.iloadN X3.here hx rfl (hb hby at_127) rfl k) ?_
      show Goes p e below s _ _ _ T3 (mkF m 128 #[.val (.int p1), .val (.int p2), .val (.int ((p1 &&& (2147483647 : Int32)) % (5 : Int32))), .val (.int t0_18), .val (.ref aNONE), .val (.ref cIN_P), .val (.ref cNP), .unset, .unset] [(.int t0_18), (.ref aNONE)])
      obtain ⟨T4, X4, e4, st4⟩ := callPureV X3 hx hZ (C := "com/example/decompose/decompose/model/analysis/Hierarchy") (y := (⟨"com/example/decompose/decompose/model/analysis/Hierarchy", "planExistence", "(Z)Lcom/example/decompose/decompose/model/analysis/Complexity;"⟩ : MethodName)) (z := (⟨"com/example/decompose/decompose/model/analysis/Hierarchy", "planExistence", "(Z)Lcom/example/decompose/decompose/model/analysis/Complexity;"⟩ : MethodName)) hown (hw _ (List.mem_of_getElem? (i := 9) rfl)) (hw _ (List.mem_of_getElem? (i := 10) rfl)) (hw _ (List.mem_of_getElem? (i := 12) rfl)) (hw _ (List.mem_of_getElem? (i := 11) rfl)) (hw _ (List.mem_of_getElem? (i := 13) rfl)) (hw _ (List.mem_of_getElem? (i := 2) rfl)) (notFace_of_selects (args := #[]) (mvT hZ (hw _ (List.mem_of_getElem? (i := 12) rfl)))) (by decide) (W := 0) (argsL := [(.int t0_18)]) (rest := []) (r := (.ref (f1 aNONE t0_18 cIN_P cNP))) (fun _ _ _ q => q) (rm1 l Z a0 hw [] aNONE t0_18 cIN_P cNP h0 T_NONE U_NONE) (by decide) (by decide) (by decide) (by decide) e3 E_NONE (g := (mkF m 128 #[.val (.int p1), .val (.int p2), .val (.int ((p1 &&& (2147483647 : Int32)) % (5 : Int32))), .val (.int t0_18), .val (.ref aNONE), .val (.ref cIN_P), .val (.ref cNP), .unset, .unset] [(.int t0_18), (.ref aNONE)])) rfl (by rw [hml]; rfl) (lenOf pd_0_0 rfl) rfl (by show 2 * 0 + _ ≤ _; exact Nat.le_of_eq rfl) (hb hby at_128)
      refine Goes.step st4 ?_
      show Goes p e below s _ _ _ T4 (mkF m 131 #[.val (.int p1), .val (.int p2), .val (.int ((p1 &&& (2147483647 : Int32)) % (5 : Int32))), .val (.int t0_18), .val (.ref aNONE), .val (.ref cIN_P), .val (.ref cNP), .unset, .unset] [(.ref (f1 aNONE t0_18 cIN_P cNP))])
      refine Goes.step (fun _ k => XS.astore X4.here hx rfl (hb hby at_131) rfl rfl (l' := #[.val (.int p1), .val (.int p2), .val (.int ((p1 &&& (2147483647 : Int32)) % (5 : Int32))), .val (.int t0_18), .val (.ref aNONE), .val (.ref cIN_P), .val (.ref cNP), .val (.ref (f1 aNONE t0_18 cIN_P cNP)), .unset]) rfl k) ?_
      show Goes p e below s _ _ _ T4 (mkF m 133 #[.val (.int p1), .val (.int p2), .val (.int ((p1 &&& (2147483647 : Int32)) % (5 : Int32))), .val (.int t0_18), .val (.ref aNONE), .val (.ref cIN_P), .val (.ref cNP), .val (.ref (f1 aNONE t0_18 cIN_P cNP)), .unset] [])
      refine Goes.step (fun _ k => XS.iloadN X4.here hx rfl (hb hby at_133) rfl k) ?_
      show Goes p e below s _ _ _ T4 (mkF m 134 #[.val (.int p1), .val (.int p2), .val (.int ((p1 &&& (2147483647 : Int32)) % (5 : Int32))), .val (.int t0_18), .val (.ref aNONE), .val (.ref cIN_P), .val (.ref cNP), .val (.ref (f1 aNONE t0_18 cIN_P cNP)), .unset] [(.int t0_18)])
      refine Goes.ite (Q := PI h0) (fun hc134 => ?_) (fun hc134 => ?_)
      · refine Goes.step (fun _ k => XS.ifYes X4.here hx rfl (pc0 := 134) (pc' := 144) rfl (hb hby at_134) rfl ((if0 _ _).trans (teq hc134).1) (by decide) (by decide) k) ?_
        show Goes p e below s _ _ _ T4 (mkF m 144 #[.val (.int p1), .val (.int p2), .val (.int ((p1 &&& (2147483647 : Int32)) % (5 : Int32))), .val (.int t0_18), .val (.ref aNONE), .val (.ref cIN_P), .val (.ref cNP), .val (.ref (f1 aNONE t0_18 cIN_P cNP)), .unset] [])
        refine Goes.step (fun _ k => XS.aload X4.here hx rfl (hb hby at_144) rfl rfl k) ?_
        show Goes p e below s _ _ _ T4 (mkF m 146 #[.val (.int p1), .val (.int p2), .val (.int ((p1 &&& (2147483647 : Int32)) % (5 : Int32))), .val (.int t0_18), .val (.ref aNONE), .val (.ref cIN_P), .val (.ref cNP), .val (.ref (f1 aNONE t0_18 cIN_P cNP)), .unset] [(.ref cNP)])
        refine Goes.step (fun _ k => XS.astore X4.here hx rfl (hb hby at_146) rfl rfl (l' := #[.val (.int p1), .val (.int p2), .val (.int ((p1 &&& (2147483647 : Int32)) % (5 : Int32))), .val (.int t0_18), .val (.ref aNONE), .val (.ref cIN_P), .val (.ref cNP), .val (.ref (f1 aNONE t0_18 cIN_P cNP)), .val (.ref cNP)]) rfl k) ?_
        show Goes p e below s _ _ _ T4 (mkF m 148 #[.val (.int p1), .val (.int p2), .val (.int ((p1 &&& (2147483647 : Int32)) % (5 : Int32))), .val (.int t0_18), .val (.ref aNONE), .val (.ref cIN_P), .val (.ref cNP), .val (.ref (f1 aNONE t0_18 cIN_P cNP)), .val (.ref cNP)] [])
        exact B148 T4 X4 e4 t0_18 aNONE cIN_P cNP (f1 aNONE t0_18 cIN_P cNP) cNP
      · refine Goes.step (fun _ k => XS.ifNo X4.here hx rfl (hb hby at_134) rfl ((if0 _ _).trans (feq hc134).1) k) ?_
        show Goes p e below s _ _ _ T4 (mkF m 137 #[.val (.int p1), .val (.int p2), .val (.int ((p1 &&& (2147483647 : Int32)) % (5 : Int32))), .val (.int t0_18), .val (.ref aNONE), .val (.ref cIN_P), .val (.ref cNP), .val (.ref (f1 aNONE t0_18 cIN_P cNP)), .unset] [])
        refine Goes.step (fun _ k => XS.aload X4.here hx rfl (hb hby at_137) rfl rfl k) ?_
        show Goes p e below s _ _ _ T4 (mkF m 139 #[.val (.int p1), .val (.int p2), .val (.int ((p1 &&& (2147483647 : Int32)) % (5 : Int32))), .val (.int t0_18), .val (.ref aNONE), .val (.ref cIN_P), .val (.ref cNP), .val (.ref (f1 aNONE t0_18 cIN_P cNP)), .unset] [(.ref cIN_P)])
        refine Goes.step (fun _ k => XS.astore X4.here hx rfl (hb hby at_139) rfl rfl (l' := #[.val (.int p1), .val (.int p2), .val (.int ((p1 &&& (2147483647 : Int32)) % (5 : Int32))), .val (.int t0_18), .val (.ref aNONE), .val (.ref cIN_P), .val (.ref cNP), .val (.ref (f1 aNONE t0_18 cIN_P cNP)), .val (.ref cIN_P)]) rfl k) ?_
        show Goes p e below s _ _ _ T4 (mkF m 141 #[.val (.int p1), .val (.int p2), .val (.int ((p1 &&& (2147483647 : Int32)) % (5 : Int32))), .val (.int t0_18), .val (.ref aNONE), .val (.ref cIN_P), .val (.ref cNP), .val (.ref (f1 aNONE t0_18 cIN_P cNP)), .val (.ref cIN_P)] [])
        refine Goes.step (fun _ k => XS.goto X4.here hx rfl (pc0 := 141) (pc' := 148) rfl (hb hby at_141) (by decide) (by decide) k) ?_
        show Goes p e below s _ _ _ T4 (mkF m 148 #[.val (.int p1), .val (.int p2), .val (.int ((p1 &&& (2147483647 : Int32)) % (5 : Int32))), .val (.int t0_18), .val (.ref aNONE), .val (.ref cIN_P), .val (.ref cNP), .val (.ref (f1 aNONE t0_18 cIN_P cNP)), .val (.ref cIN_P)] [])
        exact B148 T4 X4 e4 t0_18 aNONE cIN_P cNP (f1 aNONE t0_18 cIN_P cNP) cIN_P
    · refine Goes.step (fun _ k => XS.ifYes X.here hx rfl (pc0 := 20) (pc' := 41) rfl (hb hby at_20) rfl ((if0 _ _).trans (feq hc20).2) (by decide) (by decide) k) ?_
      show Goes p e below s _ _ _ T (mkF m 41 #[.val (.int p1), .val (.int p2), .val (.int ((p1 &&& (2147483647 : Int32)) % (5 : Int32))), .val (.int t0_18), .unset, .unset, .unset, .unset, .unset] [])
      refine Goes.step (fun _ k => XS.iloadN X.here hx rfl (hb hby at_41) rfl k) ?_
      show Goes p e below s _ _ _ T (mkF m 42 #[.val (.int p1), .val (.int p2), .val (.int ((p1 &&& (2147483647 : Int32)) % (5 : Int32))), .val (.int t0_18), .unset, .unset, .unset, .unset, .unset] [(.int ((p1 &&& (2147483647 : Int32)) % (5 : Int32)))])
      refine Goes.step (fun _ k => XS.iconst X.here hx rfl (hb hby at_42) k) ?_
      show Goes p e below s _ _ _ T (mkF m 43 #[.val (.int p1), .val (.int p2), .val (.int ((p1 &&& (2147483647 : Int32)) % (5 : Int32))), .val (.int t0_18), .unset, .unset, .unset, .unset, .unset] [(.int (1 : Int32)), (.int ((p1 &&& (2147483647 : Int32)) % (5 : Int32)))])
      refine Goes.ite (Q := PI h0) (fun hc43 => ?_) (fun hc43 => ?_)
      · refine Goes.step (fun _ k => XS.icmpNo X.here hx rfl (hb hby at_43) rfl (teq hc43).2 k) ?_
        show Goes p e below s _ _ _ T (mkF m 46 #[.val (.int p1), .val (.int p2), .val (.int ((p1 &&& (2147483647 : Int32)) % (5 : Int32))), .val (.int t0_18), .unset, .unset, .unset, .unset, .unset] [])
        obtain ⟨T5, X5, e5, st5⟩ := getS2 X hx hZ hown (host := "") (Or.inl (hw _ (List.mem_of_getElem? (i := 26) rfl))) Via.refl eT S_ACYCLIC (g := (mkF m 46 #[.val (.int p1), .val (.int p2), .val (.int ((p1 &&& (2147483647 : Int32)) % (5 : Int32))), .val (.int t0_18), .unset, .unset, .unset, .unset, .unset] [])) rfl (hb hby at_46)
        refine Goes.step st5 ?_
        show Goes p e below s _ _ _ T5 (mkF m 49 #[.val (.int p1), .val (.int p2), .val (.int ((p1 &&& (2147483647 : Int32)) % (5 : Int32))), .val (.int t0_18), .unset, .unset, .unset, .unset, .unset] [(.ref aACYCLIC)])
        refine Goes.step (fun _ k => XS.astore X5.here hx rfl (hb hby at_49) rfl rfl (l' := #[.val (.int p1), .val (.int p2), .val (.int ((p1 &&& (2147483647 : Int32)) % (5 : Int32))), .val (.int t0_18), .val (.ref aACYCLIC), .unset, .unset, .unset, .unset]) rfl k) ?_
        show Goes p e below s _ _ _ T5 (mkF m 51 #[.val (.int p1), .val (.int p2), .val (.int ((p1 &&& (2147483647 : Int32)) % (5 : Int32))), .val (.int t0_18), .val (.ref aACYCLIC), .unset, .unset, .unset, .unset] [])
        obtain ⟨T6, X6, e6, st6⟩ := getS2 X5 hx hZ hown (host := "") (Or.inl (hw _ (List.mem_of_getElem? (i := 24) rfl))) Via.refl e5 S_PSPACE (g := (mkF m 51 #[.val (.int p1), .val (.int p2), .val (.int ((p1 &&& (2147483647 : Int32)) % (5 : Int32))), .val (.int t0_18), .val (.ref aACYCLIC), .unset, .unset, .unset, .unset] [])) rfl (hb hby at_51)
        refine Goes.step st6 ?_
        show Goes p e below s _ _ _ T6 (mkF m 54 #[.val (.int p1), .val (.int p2), .val (.int ((p1 &&& (2147483647 : Int32)) % (5 : Int32))), .val (.int t0_18), .val (.ref aACYCLIC), .unset, .unset, .unset, .unset] [(.ref cPSPACE)])
        refine Goes.step (fun _ k => XS.astore X6.here hx rfl (hb hby at_54) rfl rfl (l' := #[.val (.int p1), .val (.int p2), .val (.int ((p1 &&& (2147483647 : Int32)) % (5 : Int32))), .val (.int t0_18), .val (.ref aACYCLIC), .val (.ref cPSPACE), .unset, .unset, .unset]) rfl k) ?_
        show Goes p e below s _ _ _ T6 (mkF m 56 #[.val (.int p1), .val (.int p2), .val (.int ((p1 &&& (2147483647 : Int32)) % (5 : Int32))), .val (.int t0_18), .val (.ref aACYCLIC), .val (.ref cPSPACE), .unset, .unset, .unset] [])
        obtain ⟨T7, X7, e7, st7⟩ := getS2 X6 hx hZ hown (host := "") (Or.inl (hw _ (List.mem_of_getElem? (i := 28) rfl))) Via.refl e6 S_NEXPTIME (g := (mkF m 56 #[.val (.int p1), .val (.int p2), .val (.int ((p1 &&& (2147483647 : Int32)) % (5 : Int32))), .val (.int t0_18), .val (.ref aACYCLIC), .val (.ref cPSPACE), .unset, .unset, .unset] [])) rfl (hb hby at_56)
        refine Goes.step st7 ?_
        show Goes p e below s _ _ _ T7 (mkF m 59 #[.val (.int p1), .val (.int p2), .val (.int ((p1 &&& (2147483647 : Int32)) % (5 : Int32))), .val (.int t0_18), .val (.ref aACYCLIC), .val (.ref cPSPACE), .unset, .unset, .unset] [(.ref cNEXPTIME)])
        refine Goes.step (fun _ k => XS.astore X7.here hx rfl (hb hby at_59) rfl rfl (l' := #[.val (.int p1), .val (.int p2), .val (.int ((p1 &&& (2147483647 : Int32)) % (5 : Int32))), .val (.int t0_18), .val (.ref aACYCLIC), .val (.ref cPSPACE), .val (.ref cNEXPTIME), .unset, .unset]) rfl k) ?_
        show Goes p e below s _ _ _ T7 (mkF m 61 #[.val (.int p1), .val (.int p2), .val (.int ((p1 &&& (2147483647 : Int32)) % (5 : Int32))), .val (.int t0_18), .val (.ref aACYCLIC), .val (.ref cPSPACE), .val (.ref cNEXPTIME), .unset, .unset] [])
        refine Goes.step (fun _ k => XS.goto X7.here hx rfl (pc0 := 61) (pc' := 125) rfl (hb hby at_61) (by decide) (by decide) k) ?_
        show Goes p e below s _ _ _ T7 (mkF m 125 #[.val (.int p1), .val (.int p2), .val (.int ((p1 &&& (2147483647 : Int32)) % (5 : Int32))), .val (.int t0_18), .val (.ref aACYCLIC), .val (.ref cPSPACE), .val (.ref cNEXPTIME), .unset, .unset] [])
        refine Goes.step (fun _ k => XS.aload X7.here hx rfl (hb hby at_125) rfl rfl k) ?_
        show Goes p e below s _ _ _ T7 (mkF m 127 #[.val (.int p1), .val (.int p2), .val (.int ((p1 &&& (2147483647 : Int32)) % (5 : Int32))), .val (.int t0_18), .val (.ref aACYCLIC), .val (.ref cPSPACE), .val (.ref cNEXPTIME), .unset, .unset] [(.ref aACYCLIC)])
        refine Goes.step (fun _ k => XS.iloadN X7.here hx rfl (hb hby at_127) rfl k) ?_
        show Goes p e below s _ _ _ T7 (mkF m 128 #[.val (.int p1), .val (.int p2), .val (.int ((p1 &&& (2147483647 : Int32)) % (5 : Int32))), .val (.int t0_18), .val (.ref aACYCLIC), .val (.ref cPSPACE), .val (.ref cNEXPTIME), .unset, .unset] [(.int t0_18), (.ref aACYCLIC)])
        obtain ⟨T8, X8, e8, st8⟩ := callPureV X7 hx hZ (C := "com/example/decompose/decompose/model/analysis/Hierarchy") (y := (⟨"com/example/decompose/decompose/model/analysis/Hierarchy", "planExistence", "(Z)Lcom/example/decompose/decompose/model/analysis/Complexity;"⟩ : MethodName)) (z := (⟨"com/example/decompose/decompose/model/analysis/Hierarchy", "planExistence", "(Z)Lcom/example/decompose/decompose/model/analysis/Complexity;"⟩ : MethodName)) hown (hw _ (List.mem_of_getElem? (i := 9) rfl)) (hw _ (List.mem_of_getElem? (i := 10) rfl)) (hw _ (List.mem_of_getElem? (i := 12) rfl)) (hw _ (List.mem_of_getElem? (i := 11) rfl)) (hw _ (List.mem_of_getElem? (i := 13) rfl)) (hw _ (List.mem_of_getElem? (i := 2) rfl)) (notFace_of_selects (args := #[]) (mvT hZ (hw _ (List.mem_of_getElem? (i := 12) rfl)))) (by decide) (W := 0) (argsL := [(.int t0_18)]) (rest := []) (r := (.ref (f1 aACYCLIC t0_18 cPSPACE cNEXPTIME))) (fun _ _ _ q => q) (rm1 l Z a0 hw [] aACYCLIC t0_18 cPSPACE cNEXPTIME h0 T_ACYCLIC U_ACYCLIC) (by decide) (by decide) (by decide) (by decide) e7 E_ACYCLIC (g := (mkF m 128 #[.val (.int p1), .val (.int p2), .val (.int ((p1 &&& (2147483647 : Int32)) % (5 : Int32))), .val (.int t0_18), .val (.ref aACYCLIC), .val (.ref cPSPACE), .val (.ref cNEXPTIME), .unset, .unset] [(.int t0_18), (.ref aACYCLIC)])) rfl (by rw [hml]; rfl) (lenOf pd_0_0 rfl) rfl (by show 2 * 0 + _ ≤ _; exact Nat.le_of_eq rfl) (hb hby at_128)
        refine Goes.step st8 ?_
        show Goes p e below s _ _ _ T8 (mkF m 131 #[.val (.int p1), .val (.int p2), .val (.int ((p1 &&& (2147483647 : Int32)) % (5 : Int32))), .val (.int t0_18), .val (.ref aACYCLIC), .val (.ref cPSPACE), .val (.ref cNEXPTIME), .unset, .unset] [(.ref (f1 aACYCLIC t0_18 cPSPACE cNEXPTIME))])
        refine Goes.step (fun _ k => XS.astore X8.here hx rfl (hb hby at_131) rfl rfl (l' := #[.val (.int p1), .val (.int p2), .val (.int ((p1 &&& (2147483647 : Int32)) % (5 : Int32))), .val (.int t0_18), .val (.ref aACYCLIC), .val (.ref cPSPACE), .val (.ref cNEXPTIME), .val (.ref (f1 aACYCLIC t0_18 cPSPACE cNEXPTIME)), .unset]) rfl k) ?_
        show Goes p e below s _ _ _ T8 (mkF m 133 #[.val (.int p1), .val (.int p2), .val (.int ((p1 &&& (2147483647 : Int32)) % (5 : Int32))), .val (.int t0_18), .val (.ref aACYCLIC), .val (.ref cPSPACE), .val (.ref cNEXPTIME), .val (.ref (f1 aACYCLIC t0_18 cPSPACE cNEXPTIME)), .unset] [])
        refine Goes.step (fun _ k => XS.iloadN X8.here hx rfl (hb hby at_133) rfl k) ?_
        show Goes p e below s _ _ _ T8 (mkF m 134 #[.val (.int p1), .val (.int p2), .val (.int ((p1 &&& (2147483647 : Int32)) % (5 : Int32))), .val (.int t0_18), .val (.ref aACYCLIC), .val (.ref cPSPACE), .val (.ref cNEXPTIME), .val (.ref (f1 aACYCLIC t0_18 cPSPACE cNEXPTIME)), .unset] [(.int t0_18)])
        refine Goes.ite (Q := PI h0) (fun hc134 => ?_) (fun hc134 => ?_)
        · refine Goes.step (fun _ k => XS.ifYes X8.here hx rfl (pc0 := 134) (pc' := 144) rfl (hb hby at_134) rfl ((if0 _ _).trans (teq hc134).1) (by decide) (by decide) k) ?_
          show Goes p e below s _ _ _ T8 (mkF m 144 #[.val (.int p1), .val (.int p2), .val (.int ((p1 &&& (2147483647 : Int32)) % (5 : Int32))), .val (.int t0_18), .val (.ref aACYCLIC), .val (.ref cPSPACE), .val (.ref cNEXPTIME), .val (.ref (f1 aACYCLIC t0_18 cPSPACE cNEXPTIME)), .unset] [])
          refine Goes.step (fun _ k => XS.aload X8.here hx rfl (hb hby at_144) rfl rfl k) ?_
          show Goes p e below s _ _ _ T8 (mkF m 146 #[.val (.int p1), .val (.int p2), .val (.int ((p1 &&& (2147483647 : Int32)) % (5 : Int32))), .val (.int t0_18), .val (.ref aACYCLIC), .val (.ref cPSPACE), .val (.ref cNEXPTIME), .val (.ref (f1 aACYCLIC t0_18 cPSPACE cNEXPTIME)), .unset] [(.ref cNEXPTIME)])
          refine Goes.step (fun _ k => XS.astore X8.here hx rfl (hb hby at_146) rfl rfl (l' := #[.val (.int p1), .val (.int p2), .val (.int ((p1 &&& (2147483647 : Int32)) % (5 : Int32))), .val (.int t0_18), .val (.ref aACYCLIC), .val (.ref cPSPACE), .val (.ref cNEXPTIME), .val (.ref (f1 aACYCLIC t0_18 cPSPACE cNEXPTIME)), .val (.ref cNEXPTIME)]) rfl k) ?_
          show Goes p e below s _ _ _ T8 (mkF m 148 #[.val (.int p1), .val (.int p2), .val (.int ((p1 &&& (2147483647 : Int32)) % (5 : Int32))), .val (.int t0_18), .val (.ref aACYCLIC), .val (.ref cPSPACE), .val (.ref cNEXPTIME), .val (.ref (f1 aACYCLIC t0_18 cPSPACE cNEXPTIME)), .val (.ref cNEXPTIME)] [])
          exact B148 T8 X8 e8 t0_18 aACYCLIC cPSPACE cNEXPTIME (f1 aACYCLIC t0_18 cPSPACE cNEXPTIME) cNEXPTIME
        · refine Goes.step (fun _ k => XS.ifNo X8.here hx rfl (hb hby at_134) rfl ((if0 _ _).trans (feq hc134).1) k) ?_
          show Goes p e below s _ _ _ T8 (mkF m 137 #[.val (.int p1), .val (.int p2), .val (.int ((p1 &&& (2147483647 : Int32)) % (5 : Int32))), .val (.int t0_18), .val (.ref aACYCLIC), .val (.ref cPSPACE), .val (.ref cNEXPTIME), .val (.ref (f1 aACYCLIC t0_18 cPSPACE cNEXPTIME)), .unset] [])
          refine Goes.step (fun _ k => XS.aload X8.here hx rfl (hb hby at_137) rfl rfl k) ?_
          show Goes p e below s _ _ _ T8 (mkF m 139 #[.val (.int p1), .val (.int p2), .val (.int ((p1 &&& (2147483647 : Int32)) % (5 : Int32))), .val (.int t0_18), .val (.ref aACYCLIC), .val (.ref cPSPACE), .val (.ref cNEXPTIME), .val (.ref (f1 aACYCLIC t0_18 cPSPACE cNEXPTIME)), .unset] [(.ref cPSPACE)])
          refine Goes.step (fun _ k => XS.astore X8.here hx rfl (hb hby at_139) rfl rfl (l' := #[.val (.int p1), .val (.int p2), .val (.int ((p1 &&& (2147483647 : Int32)) % (5 : Int32))), .val (.int t0_18), .val (.ref aACYCLIC), .val (.ref cPSPACE), .val (.ref cNEXPTIME), .val (.ref (f1 aACYCLIC t0_18 cPSPACE cNEXPTIME)), .val (.ref cPSPACE)]) rfl k) ?_
          show Goes p e below s _ _ _ T8 (mkF m 141 #[.val (.int p1), .val (.int p2), .val (.int ((p1 &&& (2147483647 : Int32)) % (5 : Int32))), .val (.int t0_18), .val (.ref aACYCLIC), .val (.ref cPSPACE), .val (.ref cNEXPTIME), .val (.ref (f1 aACYCLIC t0_18 cPSPACE cNEXPTIME)), .val (.ref cPSPACE)] [])
          refine Goes.step (fun _ k => XS.goto X8.here hx rfl (pc0 := 141) (pc' := 148) rfl (hb hby at_141) (by decide) (by decide) k) ?_
          show Goes p e below s _ _ _ T8 (mkF m 148 #[.val (.int p1), .val (.int p2), .val (.int ((p1 &&& (2147483647 : Int32)) % (5 : Int32))), .val (.int t0_18), .val (.ref aACYCLIC), .val (.ref cPSPACE), .val (.ref cNEXPTIME), .val (.ref (f1 aACYCLIC t0_18 cPSPACE cNEXPTIME)), .val (.ref cPSPACE)] [])
          exact B148 T8 X8 e8 t0_18 aACYCLIC cPSPACE cNEXPTIME (f1 aACYCLIC t0_18 cPSPACE cNEXPTIME) cPSPACE
      · refine Goes.step (fun _ k => XS.icmpYes X.here hx rfl (pc0 := 43) (pc' := 64) rfl (hb hby at_43) rfl (feq hc43).2 (by decide) (by decide) k) ?_
        show Goes p e below s _ _ _ T (mkF m 64 #[.val (.int p1), .val (.int p2), .val (.int ((p1 &&& (2147483647 : Int32)) % (5 : Int32))), .val (.int t0_18), .unset, .unset, .unset, .unset, .unset] [])
        refine Goes.step (fun _ k => XS.iloadN X.here hx rfl (hb hby at_64) rfl k) ?_
        show Goes p e below s _ _ _ T (mkF m 65 #[.val (.int p1), .val (.int p2), .val (.int ((p1 &&& (2147483647 : Int32)) % (5 : Int32))), .val (.int t0_18), .unset, .unset, .unset, .unset, .unset] [(.int ((p1 &&& (2147483647 : Int32)) % (5 : Int32)))])
        refine Goes.step (fun _ k => XS.iconst X.here hx rfl (hb hby at_65) k) ?_
        show Goes p e below s _ _ _ T (mkF m 66 #[.val (.int p1), .val (.int p2), .val (.int ((p1 &&& (2147483647 : Int32)) % (5 : Int32))), .val (.int t0_18), .unset, .unset, .unset, .unset, .unset] [(.int (2 : Int32)), (.int ((p1 &&& (2147483647 : Int32)) % (5 : Int32)))])
        refine Goes.ite (Q := PI h0) (fun hc66 => ?_) (fun hc66 => ?_)
        · refine Goes.step (fun _ k => XS.icmpNo X.here hx rfl (hb hby at_66) rfl (teq hc66).2 k) ?_
          show Goes p e below s _ _ _ T (mkF m 69 #[.val (.int p1), .val (.int p2), .val (.int ((p1 &&& (2147483647 : Int32)) % (5 : Int32))), .val (.int t0_18), .unset, .unset, .unset, .unset, .unset] [])
          obtain ⟨T9, X9, e9, st9⟩ := getS2 X hx hZ hown (host := "") (Or.inl (hw _ (List.mem_of_getElem? (i := 32) rfl))) Via.refl eT S_REGULAR (g := (mkF m 69 #[.val (.int p1), .val (.int p2), .val (.int ((p1 &&& (2147483647 : Int32)) % (5 : Int32))), .val (.int t0_18), .unset, .unset, .unset, .unset, .unset] [])) rfl (hb hby at_69)
          refine Goes.step st9 ?_
          show Goes p e below s _ _ _ T9 (mkF m 72 #[.val (.int p1), .val (.int p2), .val (.int ((p1 &&& (2147483647 : Int32)) % (5 : Int32))), .val (.int t0_18), .unset, .unset, .unset, .unset, .unset] [(.ref aREGULAR)])
          refine Goes.step (fun _ k => XS.astore X9.here hx rfl (hb hby at_72) rfl rfl (l' := #[.val (.int p1), .val (.int p2), .val (.int ((p1 &&& (2147483647 : Int32)) % (5 : Int32))), .val (.int t0_18), .val (.ref aREGULAR), .unset, .unset, .unset, .unset]) rfl k) ?_
          show Goes p e below s _ _ _ T9 (mkF m 74 #[.val (.int p1), .val (.int p2), .val (.int ((p1 &&& (2147483647 : Int32)) % (5 : Int32))), .val (.int t0_18), .val (.ref aREGULAR), .unset, .unset, .unset, .unset] [])
          obtain ⟨T10, X10, e10, st10⟩ := getS2 X9 hx hZ hown (host := "") (Or.inl (hw _ (List.mem_of_getElem? (i := 24) rfl))) Via.refl e9 S_PSPACE (g := (mkF m 74 #[.val (.int p1), .val (.int p2), .val (.int ((p1 &&& (2147483647 : Int32)) % (5 : Int32))), .val (.int t0_18), .val (.ref aREGULAR), .unset, .unset, .unset, .unset] [])) rfl (hb hby at_74)
          refine Goes.step st10 ?_
          show Goes p e below s _ _ _ T10 (mkF m 77 #[.val (.int p1), .val (.int p2), .val (.int ((p1 &&& (2147483647 : Int32)) % (5 : Int32))), .val (.int t0_18), .val (.ref aREGULAR), .unset, .unset, .unset, .unset] [(.ref cPSPACE)])
          refine Goes.step (fun _ k => XS.astore X10.here hx rfl (hb hby at_77) rfl rfl (l' := #[.val (.int p1), .val (.int p2), .val (.int ((p1 &&& (2147483647 : Int32)) % (5 : Int32))), .val (.int t0_18), .val (.ref aREGULAR), .val (.ref cPSPACE), .unset, .unset, .unset]) rfl k) ?_
          show Goes p e below s _ _ _ T10 (mkF m 79 #[.val (.int p1), .val (.int p2), .val (.int ((p1 &&& (2147483647 : Int32)) % (5 : Int32))), .val (.int t0_18), .val (.ref aREGULAR), .val (.ref cPSPACE), .unset, .unset, .unset] [])
          obtain ⟨T11, X11, e11, st11⟩ := getS2 X10 hx hZ hown (host := "") (Or.inl (hw _ (List.mem_of_getElem? (i := 24) rfl))) Via.refl e10 S_PSPACE (g := (mkF m 79 #[.val (.int p1), .val (.int p2), .val (.int ((p1 &&& (2147483647 : Int32)) % (5 : Int32))), .val (.int t0_18), .val (.ref aREGULAR), .val (.ref cPSPACE), .unset, .unset, .unset] [])) rfl (hb hby at_79)
          refine Goes.step st11 ?_
          show Goes p e below s _ _ _ T11 (mkF m 82 #[.val (.int p1), .val (.int p2), .val (.int ((p1 &&& (2147483647 : Int32)) % (5 : Int32))), .val (.int t0_18), .val (.ref aREGULAR), .val (.ref cPSPACE), .unset, .unset, .unset] [(.ref cPSPACE)])
          refine Goes.step (fun _ k => XS.astore X11.here hx rfl (hb hby at_82) rfl rfl (l' := #[.val (.int p1), .val (.int p2), .val (.int ((p1 &&& (2147483647 : Int32)) % (5 : Int32))), .val (.int t0_18), .val (.ref aREGULAR), .val (.ref cPSPACE), .val (.ref cPSPACE), .unset, .unset]) rfl k) ?_
          show Goes p e below s _ _ _ T11 (mkF m 84 #[.val (.int p1), .val (.int p2), .val (.int ((p1 &&& (2147483647 : Int32)) % (5 : Int32))), .val (.int t0_18), .val (.ref aREGULAR), .val (.ref cPSPACE), .val (.ref cPSPACE), .unset, .unset] [])
          refine Goes.step (fun _ k => XS.goto X11.here hx rfl (pc0 := 84) (pc' := 125) rfl (hb hby at_84) (by decide) (by decide) k) ?_
          show Goes p e below s _ _ _ T11 (mkF m 125 #[.val (.int p1), .val (.int p2), .val (.int ((p1 &&& (2147483647 : Int32)) % (5 : Int32))), .val (.int t0_18), .val (.ref aREGULAR), .val (.ref cPSPACE), .val (.ref cPSPACE), .unset, .unset] [])
          refine Goes.step (fun _ k => XS.aload X11.here hx rfl (hb hby at_125) rfl rfl k) ?_
          show Goes p e below s _ _ _ T11 (mkF m 127 #[.val (.int p1), .val (.int p2), .val (.int ((p1 &&& (2147483647 : Int32)) % (5 : Int32))), .val (.int t0_18), .val (.ref aREGULAR), .val (.ref cPSPACE), .val (.ref cPSPACE), .unset, .unset] [(.ref aREGULAR)])
          refine Goes.step (fun _ k => XS.iloadN X11.here hx rfl (hb hby at_127) rfl k) ?_
          show Goes p e below s _ _ _ T11 (mkF m 128 #[.val (.int p1), .val (.int p2), .val (.int ((p1 &&& (2147483647 : Int32)) % (5 : Int32))), .val (.int t0_18), .val (.ref aREGULAR), .val (.ref cPSPACE), .val (.ref cPSPACE), .unset, .unset] [(.int t0_18), (.ref aREGULAR)])
          obtain ⟨T12, X12, e12, st12⟩ := callPureV X11 hx hZ (C := "com/example/decompose/decompose/model/analysis/Hierarchy") (y := (⟨"com/example/decompose/decompose/model/analysis/Hierarchy", "planExistence", "(Z)Lcom/example/decompose/decompose/model/analysis/Complexity;"⟩ : MethodName)) (z := (⟨"com/example/decompose/decompose/model/analysis/Hierarchy", "planExistence", "(Z)Lcom/example/decompose/decompose/model/analysis/Complexity;"⟩ : MethodName)) hown (hw _ (List.mem_of_getElem? (i := 9) rfl)) (hw _ (List.mem_of_getElem? (i := 10) rfl)) (hw _ (List.mem_of_getElem? (i := 12) rfl)) (hw _ (List.mem_of_getElem? (i := 11) rfl)) (hw _ (List.mem_of_getElem? (i := 13) rfl)) (hw _ (List.mem_of_getElem? (i := 2) rfl)) (notFace_of_selects (args := #[]) (mvT hZ (hw _ (List.mem_of_getElem? (i := 12) rfl)))) (by decide) (W := 0) (argsL := [(.int t0_18)]) (rest := []) (r := (.ref (f1 aREGULAR t0_18 cPSPACE cPSPACE))) (fun _ _ _ q => q) (rm1 l Z a0 hw [] aREGULAR t0_18 cPSPACE cPSPACE h0 T_REGULAR U_REGULAR) (by decide) (by decide) (by decide) (by decide) e11 E_REGULAR (g := (mkF m 128 #[.val (.int p1), .val (.int p2), .val (.int ((p1 &&& (2147483647 : Int32)) % (5 : Int32))), .val (.int t0_18), .val (.ref aREGULAR), .val (.ref cPSPACE), .val (.ref cPSPACE), .unset, .unset] [(.int t0_18), (.ref aREGULAR)])) rfl (by rw [hml]; rfl) (lenOf pd_0_0 rfl) rfl (by show 2 * 0 + _ ≤ _; exact Nat.le_of_eq rfl) (hb hby at_128)
          refine Goes.step st12 ?_
          show Goes p e below s _ _ _ T12 (mkF m 131 #[.val (.int p1), .val (.int p2), .val (.int ((p1 &&& (2147483647 : Int32)) % (5 : Int32))), .val (.int t0_18), .val (.ref aREGULAR), .val (.ref cPSPACE), .val (.ref cPSPACE), .unset, .unset] [(.ref (f1 aREGULAR t0_18 cPSPACE cPSPACE))])
          refine Goes.step (fun _ k => XS.astore X12.here hx rfl (hb hby at_131) rfl rfl (l' := #[.val (.int p1), .val (.int p2), .val (.int ((p1 &&& (2147483647 : Int32)) % (5 : Int32))), .val (.int t0_18), .val (.ref aREGULAR), .val (.ref cPSPACE), .val (.ref cPSPACE), .val (.ref (f1 aREGULAR t0_18 cPSPACE cPSPACE)), .unset]) rfl k) ?_
          show Goes p e below s _ _ _ T12 (mkF m 133 #[.val (.int p1), .val (.int p2), .val (.int ((p1 &&& (2147483647 : Int32)) % (5 : Int32))), .val (.int t0_18), .val (.ref aREGULAR), .val (.ref cPSPACE), .val (.ref cPSPACE), .val (.ref (f1 aREGULAR t0_18 cPSPACE cPSPACE)), .unset] [])
          refine Goes.step (fun _ k => XS.iloadN X12.here hx rfl (hb hby at_133) rfl k) ?_
          show Goes p e below s _ _ _ T12 (mkF m 134 #[.val (.int p1), .val (.int p2), .val (.int ((p1 &&& (2147483647 : Int32)) % (5 : Int32))), .val (.int t0_18), .val (.ref aREGULAR), .val (.ref cPSPACE), .val (.ref cPSPACE), .val (.ref (f1 aREGULAR t0_18 cPSPACE cPSPACE)), .unset] [(.int t0_18)])
          refine Goes.ite (Q := PI h0) (fun hc134 => ?_) (fun hc134 => ?_)
          · refine Goes.step (fun _ k => XS.ifYes X12.here hx rfl (pc0 := 134) (pc' := 144) rfl (hb hby at_134) rfl ((if0 _ _).trans (teq hc134).1) (by decide) (by decide) k) ?_
            show Goes p e below s _ _ _ T12 (mkF m 144 #[.val (.int p1), .val (.int p2), .val (.int ((p1 &&& (2147483647 : Int32)) % (5 : Int32))), .val (.int t0_18), .val (.ref aREGULAR), .val (.ref cPSPACE), .val (.ref cPSPACE), .val (.ref (f1 aREGULAR t0_18 cPSPACE cPSPACE)), .unset] [])
            refine Goes.step (fun _ k => XS.aload X12.here hx rfl (hb hby at_144) rfl rfl k) ?_
            show Goes p e below s _ _ _ T12 (mkF m 146 #[.val (.int p1), .val (.int p2), .val (.int ((p1 &&& (2147483647 : Int32)) % (5 : Int32))), .val (.int t0_18), .val (.ref aREGULAR), .val (.ref cPSPACE), .val (.ref cPSPACE), .val (.ref (f1 aREGULAR t0_18 cPSPACE cPSPACE)), .unset] [(.ref cPSPACE)])
            refine Goes.step (fun _ k => XS.astore X12.here hx rfl (hb hby at_146) rfl rfl (l' := #[.val (.int p1), .val (.int p2), .val (.int ((p1 &&& (2147483647 : Int32)) % (5 : Int32))), .val (.int t0_18), .val (.ref aREGULAR), .val (.ref cPSPACE), .val (.ref cPSPACE), .val (.ref (f1 aREGULAR t0_18 cPSPACE cPSPACE)), .val (.ref cPSPACE)]) rfl k) ?_
            show Goes p e below s _ _ _ T12 (mkF m 148 #[.val (.int p1), .val (.int p2), .val (.int ((p1 &&& (2147483647 : Int32)) % (5 : Int32))), .val (.int t0_18), .val (.ref aREGULAR), .val (.ref cPSPACE), .val (.ref cPSPACE), .val (.ref (f1 aREGULAR t0_18 cPSPACE cPSPACE)), .val (.ref cPSPACE)] [])
            exact B148 T12 X12 e12 t0_18 aREGULAR cPSPACE cPSPACE (f1 aREGULAR t0_18 cPSPACE cPSPACE) cPSPACE
          · refine Goes.step (fun _ k => XS.ifNo X12.here hx rfl (hb hby at_134) rfl ((if0 _ _).trans (feq hc134).1) k) ?_
            show Goes p e below s _ _ _ T12 (mkF m 137 #[.val (.int p1), .val (.int p2), .val (.int ((p1 &&& (2147483647 : Int32)) % (5 : Int32))), .val (.int t0_18), .val (.ref aREGULAR), .val (.ref cPSPACE), .val (.ref cPSPACE), .val (.ref (f1 aREGULAR t0_18 cPSPACE cPSPACE)), .unset] [])
            refine Goes.step (fun _ k => XS.aload X12.here hx rfl (hb hby at_137) rfl rfl k) ?_
            show Goes p e below s _ _ _ T12 (mkF m 139 #[.val (.int p1), .val (.int p2), .val (.int ((p1 &&& (2147483647 : Int32)) % (5 : Int32))), .val (.int t0_18), .val (.ref aREGULAR), .val (.ref cPSPACE), .val (.ref cPSPACE), .val (.ref (f1 aREGULAR t0_18 cPSPACE cPSPACE)), .unset] [(.ref cPSPACE)])
            refine Goes.step (fun _ k => XS.astore X12.here hx rfl (hb hby at_139) rfl rfl (l' := #[.val (.int p1), .val (.int p2), .val (.int ((p1 &&& (2147483647 : Int32)) % (5 : Int32))), .val (.int t0_18), .val (.ref aREGULAR), .val (.ref cPSPACE), .val (.ref cPSPACE), .val (.ref (f1 aREGULAR t0_18 cPSPACE cPSPACE)), .val (.ref cPSPACE)]) rfl k) ?_
            show Goes p e below s _ _ _ T12 (mkF m 141 #[.val (.int p1), .val (.int p2), .val (.int ((p1 &&& (2147483647 : Int32)) % (5 : Int32))), .val (.int t0_18), .val (.ref aREGULAR), .val (.ref cPSPACE), .val (.ref cPSPACE), .val (.ref (f1 aREGULAR t0_18 cPSPACE cPSPACE)), .val (.ref cPSPACE)] [])
            refine Goes.step (fun _ k => XS.goto X12.here hx rfl (pc0 := 141) (pc' := 148) rfl (hb hby at_141) (by decide) (by decide) k) ?_
            show Goes p e below s _ _ _ T12 (mkF m 148 #[.val (.int p1), .val (.int p2), .val (.int ((p1 &&& (2147483647 : Int32)) % (5 : Int32))), .val (.int t0_18), .val (.ref aREGULAR), .val (.ref cPSPACE), .val (.ref cPSPACE), .val (.ref (f1 aREGULAR t0_18 cPSPACE cPSPACE)), .val (.ref cPSPACE)] [])
            exact B148 T12 X12 e12 t0_18 aREGULAR cPSPACE cPSPACE (f1 aREGULAR t0_18 cPSPACE cPSPACE) cPSPACE
        · refine Goes.step (fun _ k => XS.icmpYes X.here hx rfl (pc0 := 66) (pc' := 87) rfl (hb hby at_66) rfl (feq hc66).2 (by decide) (by decide) k) ?_
          show Goes p e below s _ _ _ T (mkF m 87 #[.val (.int p1), .val (.int p2), .val (.int ((p1 &&& (2147483647 : Int32)) % (5 : Int32))), .val (.int t0_18), .unset, .unset, .unset, .unset, .unset] [])
          refine Goes.step (fun _ k => XS.iloadN X.here hx rfl (hb hby at_87) rfl k) ?_
          show Goes p e below s _ _ _ T (mkF m 88 #[.val (.int p1), .val (.int p2), .val (.int ((p1 &&& (2147483647 : Int32)) % (5 : Int32))), .val (.int t0_18), .unset, .unset, .unset, .unset, .unset] [(.int ((p1 &&& (2147483647 : Int32)) % (5 : Int32)))])
          refine Goes.step (fun _ k => XS.iconst X.here hx rfl (hb hby at_88) k) ?_
          show Goes p e below s _ _ _ T (mkF m 89 #[.val (.int p1), .val (.int p2), .val (.int ((p1 &&& (2147483647 : Int32)) % (5 : Int32))), .val (.int t0_18), .unset, .unset, .unset, .unset, .unset] [(.int (3 : Int32)), (.int ((p1 &&& (2147483647 : Int32)) % (5 : Int32)))])
          refine Goes.ite (Q := PI h0) (fun hc89 => ?_) (fun hc89 => ?_)
          · refine Goes.step (fun _ k => XS.icmpNo X.here hx rfl (hb hby at_89) rfl (teq hc89).2 k) ?_
            show Goes p e below s _ _ _ T (mkF m 92 #[.val (.int p1), .val (.int p2), .val (.int ((p1 &&& (2147483647 : Int32)) % (5 : Int32))), .val (.int t0_18), .unset, .unset, .unset, .unset, .unset] [])
            obtain ⟨T13, X13, e13, st13⟩ := getS2 X hx hZ hown (host := "") (Or.inl (hw _ (List.mem_of_getElem? (i := 22) rfl))) Via.refl eT S_TAIL_RECURSIVE (g := (mkF m 92 #[.val (.int p1), .val (.int p2), .val (.int ((p1 &&& (2147483647 : Int32)) % (5 : Int32))), .val (.int t0_18), .unset, .unset, .unset, .unset, .unset] [])) rfl (hb hby at_92)
            refine Goes.step st13 ?_
            show Goes p e below s _ _ _ T13 (mkF m 95 #[.val (.int p1), .val (.int p2), .val (.int ((p1 &&& (2147483647 : Int32)) % (5 : Int32))), .val (.int t0_18), .unset, .unset, .unset, .unset, .unset] [(.ref aTAIL_RECURSIVE)])
            refine Goes.step (fun _ k => XS.astore X13.here hx rfl (hb hby at_95) rfl rfl (l' := #[.val (.int p1), .val (.int p2), .val (.int ((p1 &&& (2147483647 : Int32)) % (5 : Int32))), .val (.int t0_18), .val (.ref aTAIL_RECURSIVE), .unset, .unset, .unset, .unset]) rfl k) ?_
            show Goes p e below s _ _ _ T13 (mkF m 97 #[.val (.int p1), .val (.int p2), .val (.int ((p1 &&& (2147483647 : Int32)) % (5 : Int32))), .val (.int t0_18), .val (.ref aTAIL_RECURSIVE), .unset, .unset, .unset, .unset] [])
            obtain ⟨T14, X14, e14, st14⟩ := getS2 X13 hx hZ hown (host := "") (Or.inl (hw _ (List.mem_of_getElem? (i := 24) rfl))) Via.refl e13 S_PSPACE (g := (mkF m 97 #[.val (.int p1), .val (.int p2), .val (.int ((p1 &&& (2147483647 : Int32)) % (5 : Int32))), .val (.int t0_18), .val (.ref aTAIL_RECURSIVE), .unset, .unset, .unset, .unset] [])) rfl (hb hby at_97)
            refine Goes.step st14 ?_
            show Goes p e below s _ _ _ T14 (mkF m 100 #[.val (.int p1), .val (.int p2), .val (.int ((p1 &&& (2147483647 : Int32)) % (5 : Int32))), .val (.int t0_18), .val (.ref aTAIL_RECURSIVE), .unset, .unset, .unset, .unset] [(.ref cPSPACE)])
            refine Goes.step (fun _ k => XS.astore X14.here hx rfl (hb hby at_100) rfl rfl (l' := #[.val (.int p1), .val (.int p2), .val (.int ((p1 &&& (2147483647 : Int32)) % (5 : Int32))), .val (.int t0_18), .val (.ref aTAIL_RECURSIVE), .val (.ref cPSPACE), .unset, .unset, .unset]) rfl k) ?_
            show Goes p e below s _ _ _ T14 (mkF m 102 #[.val (.int p1), .val (.int p2), .val (.int ((p1 &&& (2147483647 : Int32)) % (5 : Int32))), .val (.int t0_18), .val (.ref aTAIL_RECURSIVE), .val (.ref cPSPACE), .unset, .unset, .unset] [])
            obtain ⟨T15, X15, e15, st15⟩ := getS2 X14 hx hZ hown (host := "") (Or.inl (hw _ (List.mem_of_getElem? (i := 18) rfl))) Via.refl e14 S_EXPTIME (g := (mkF m 102 #[.val (.int p1), .val (.int p2), .val (.int ((p1 &&& (2147483647 : Int32)) % (5 : Int32))), .val (.int t0_18), .val (.ref aTAIL_RECURSIVE), .val (.ref cPSPACE), .unset, .unset, .unset] [])) rfl (hb hby at_102)
            refine Goes.step st15 ?_
            show Goes p e below s _ _ _ T15 (mkF m 105 #[.val (.int p1), .val (.int p2), .val (.int ((p1 &&& (2147483647 : Int32)) % (5 : Int32))), .val (.int t0_18), .val (.ref aTAIL_RECURSIVE), .val (.ref cPSPACE), .unset, .unset, .unset] [(.ref cEXPTIME)])
            refine Goes.step (fun _ k => XS.astore X15.here hx rfl (hb hby at_105) rfl rfl (l' := #[.val (.int p1), .val (.int p2), .val (.int ((p1 &&& (2147483647 : Int32)) % (5 : Int32))), .val (.int t0_18), .val (.ref aTAIL_RECURSIVE), .val (.ref cPSPACE), .val (.ref cEXPTIME), .unset, .unset]) rfl k) ?_
            show Goes p e below s _ _ _ T15 (mkF m 107 #[.val (.int p1), .val (.int p2), .val (.int ((p1 &&& (2147483647 : Int32)) % (5 : Int32))), .val (.int t0_18), .val (.ref aTAIL_RECURSIVE), .val (.ref cPSPACE), .val (.ref cEXPTIME), .unset, .unset] [])
            refine Goes.step (fun _ k => XS.goto X15.here hx rfl (pc0 := 107) (pc' := 125) rfl (hb hby at_107) (by decide) (by decide) k) ?_
            show Goes p e below s _ _ _ T15 (mkF m 125 #[.val (.int p1), .val (.int p2), .val (.int ((p1 &&& (2147483647 : Int32)) % (5 : Int32))), .val (.int t0_18), .val (.ref aTAIL_RECURSIVE), .val (.ref cPSPACE), .val (.ref cEXPTIME), .unset, .unset] [])
            refine Goes.step (fun _ k => XS.aload X15.here hx rfl (hb hby at_125) rfl rfl k) ?_
            show Goes p e below s _ _ _ T15 (mkF m 127 #[.val (.int p1), .val (.int p2), .val (.int ((p1 &&& (2147483647 : Int32)) % (5 : Int32))), .val (.int t0_18), .val (.ref aTAIL_RECURSIVE), .val (.ref cPSPACE), .val (.ref cEXPTIME), .unset, .unset] [(.ref aTAIL_RECURSIVE)])
            refine Goes.step (fun _ k => XS.iloadN X15.here hx rfl (hb hby at_127) rfl k) ?_
            show Goes p e below s _ _ _ T15 (mkF m 128 #[.val (.int p1), .val (.int p2), .val (.int ((p1 &&& (2147483647 : Int32)) % (5 : Int32))), .val (.int t0_18), .val (.ref aTAIL_RECURSIVE), .val (.ref cPSPACE), .val (.ref cEXPTIME), .unset, .unset] [(.int t0_18), (.ref aTAIL_RECURSIVE)])
            obtain ⟨T16, X16, e16, st16⟩ := callPureV X15 hx hZ (C := "com/example/decompose/decompose/model/analysis/Hierarchy") (y := (⟨"com/example/decompose/decompose/model/analysis/Hierarchy", "planExistence", "(Z)Lcom/example/decompose/decompose/model/analysis/Complexity;"⟩ : MethodName)) (z := (⟨"com/example/decompose/decompose/model/analysis/Hierarchy", "planExistence", "(Z)Lcom/example/decompose/decompose/model/analysis/Complexity;"⟩ : MethodName)) hown (hw _ (List.mem_of_getElem? (i := 9) rfl)) (hw _ (List.mem_of_getElem? (i := 10) rfl)) (hw _ (List.mem_of_getElem? (i := 12) rfl)) (hw _ (List.mem_of_getElem? (i := 11) rfl)) (hw _ (List.mem_of_getElem? (i := 13) rfl)) (hw _ (List.mem_of_getElem? (i := 2) rfl)) (notFace_of_selects (args := #[]) (mvT hZ (hw _ (List.mem_of_getElem? (i := 12) rfl)))) (by decide) (W := 0) (argsL := [(.int t0_18)]) (rest := []) (r := (.ref (f1 aTAIL_RECURSIVE t0_18 cPSPACE cEXPTIME))) (fun _ _ _ q => q) (rm1 l Z a0 hw [] aTAIL_RECURSIVE t0_18 cPSPACE cEXPTIME h0 T_TAIL_RECURSIVE U_TAIL_RECURSIVE) (by decide) (by decide) (by decide) (by decide) e15 E_TAIL_RECURSIVE (g := (mkF m 128 #[.val (.int p1), .val (.int p2), .val (.int ((p1 &&& (2147483647 : Int32)) % (5 : Int32))), .val (.int t0_18), .val (.ref aTAIL_RECURSIVE), .val (.ref cPSPACE), .val (.ref cEXPTIME), .unset, .unset] [(.int t0_18), (.ref aTAIL_RECURSIVE)])) rfl (by rw [hml]; rfl) (lenOf pd_0_0 rfl) rfl (by show 2 * 0 + _ ≤ _; exact Nat.le_of_eq rfl) (hb hby at_128)
            refine Goes.step st16 ?_
            show Goes p e below s _ _ _ T16 (mkF m 131 #[.val (.int p1), .val (.int p2), .val (.int ((p1 &&& (2147483647 : Int32)) % (5 : Int32))), .val (.int t0_18), .val (.ref aTAIL_RECURSIVE), .val (.ref cPSPACE), .val (.ref cEXPTIME), .unset, .unset] [(.ref (f1 aTAIL_RECURSIVE t0_18 cPSPACE cEXPTIME))])
            refine Goes.step (fun _ k => XS.astore X16.here hx rfl (hb hby at_131) rfl rfl (l' := #[.val (.int p1), .val (.int p2), .val (.int ((p1 &&& (2147483647 : Int32)) % (5 : Int32))), .val (.int t0_18), .val (.ref aTAIL_RECURSIVE), .val (.ref cPSPACE), .val (.ref cEXPTIME), .val (.ref (f1 aTAIL_RECURSIVE t0_18 cPSPACE cEXPTIME)), .unset]) rfl k) ?_
            show Goes p e below s _ _ _ T16 (mkF m 133 #[.val (.int p1), .val (.int p2), .val (.int ((p1 &&& (2147483647 : Int32)) % (5 : Int32))), .val (.int t0_18), .val (.ref aTAIL_RECURSIVE), .val (.ref cPSPACE), .val (.ref cEXPTIME), .val (.ref (f1 aTAIL_RECURSIVE t0_18 cPSPACE cEXPTIME)), .unset] [])
            refine Goes.step (fun _ k => XS.iloadN X16.here hx rfl (hb hby at_133) rfl k) ?_
            show Goes p e below s _ _ _ T16 (mkF m 134 #[.val (.int p1), .val (.int p2), .val (.int ((p1 &&& (2147483647 : Int32)) % (5 : Int32))), .val (.int t0_18), .val (.ref aTAIL_RECURSIVE), .val (.ref cPSPACE), .val (.ref cEXPTIME), .val (.ref (f1 aTAIL_RECURSIVE t0_18 cPSPACE cEXPTIME)), .unset] [(.int t0_18)])
            refine Goes.ite (Q := PI h0) (fun hc134 => ?_) (fun hc134 => ?_)
            · refine Goes.step (fun _ k => XS.ifYes X16.here hx rfl (pc0 := 134) (pc' := 144) rfl (hb hby at_134) rfl ((if0 _ _).trans (teq hc134).1) (by decide) (by decide) k) ?_
              show Goes p e below s _ _ _ T16 (mkF m 144 #[.val (.int p1), .val (.int p2), .val (.int ((p1 &&& (2147483647 : Int32)) % (5 : Int32))), .val (.int t0_18), .val (.ref aTAIL_RECURSIVE), .val (.ref cPSPACE), .val (.ref cEXPTIME), .val (.ref (f1 aTAIL_RECURSIVE t0_18 cPSPACE cEXPTIME)), .unset] [])
              refine Goes.step (fun _ k => XS.aload X16.here hx rfl (hb hby at_144) rfl rfl k) ?_
              show Goes p e below s _ _ _ T16 (mkF m 146 #[.val (.int p1), .val (.int p2), .val (.int ((p1 &&& (2147483647 : Int32)) % (5 : Int32))), .val (.int t0_18), .val (.ref aTAIL_RECURSIVE), .val (.ref cPSPACE), .val (.ref cEXPTIME), .val (.ref (f1 aTAIL_RECURSIVE t0_18 cPSPACE cEXPTIME)), .unset] [(.ref cEXPTIME)])
              refine Goes.step (fun _ k => XS.astore X16.here hx rfl (hb hby at_146) rfl rfl (l' := #[.val (.int p1), .val (.int p2), .val (.int ((p1 &&& (2147483647 : Int32)) % (5 : Int32))), .val (.int t0_18), .val (.ref aTAIL_RECURSIVE), .val (.ref cPSPACE), .val (.ref cEXPTIME), .val (.ref (f1 aTAIL_RECURSIVE t0_18 cPSPACE cEXPTIME)), .val (.ref cEXPTIME)]) rfl k) ?_
              show Goes p e below s _ _ _ T16 (mkF m 148 #[.val (.int p1), .val (.int p2), .val (.int ((p1 &&& (2147483647 : Int32)) % (5 : Int32))), .val (.int t0_18), .val (.ref aTAIL_RECURSIVE), .val (.ref cPSPACE), .val (.ref cEXPTIME), .val (.ref (f1 aTAIL_RECURSIVE t0_18 cPSPACE cEXPTIME)), .val (.ref cEXPTIME)] [])
              exact B148 T16 X16 e16 t0_18 aTAIL_RECURSIVE cPSPACE cEXPTIME (f1 aTAIL_RECURSIVE t0_18 cPSPACE cEXPTIME) cEXPTIME
            · refine Goes.step (fun _ k => XS.ifNo X16.here hx rfl (hb hby at_134) rfl ((if0 _ _).trans (feq hc134).1) k) ?_
              show Goes p e below s _ _ _ T16 (mkF m 137 #[.val (.int p1), .val (.int p2), .val (.int ((p1 &&& (2147483647 : Int32)) % (5 : Int32))), .val (.int t0_18), .val (.ref aTAIL_RECURSIVE), .val (.ref cPSPACE), .val (.ref cEXPTIME), .val (.ref (f1 aTAIL_RECURSIVE t0_18 cPSPACE cEXPTIME)), .unset] [])
              refine Goes.step (fun _ k => XS.aload X16.here hx rfl (hb hby at_137) rfl rfl k) ?_
              show Goes p e below s _ _ _ T16 (mkF m 139 #[.val (.int p1), .val (.int p2), .val (.int ((p1 &&& (2147483647 : Int32)) % (5 : Int32))), .val (.int t0_18), .val (.ref aTAIL_RECURSIVE), .val (.ref cPSPACE), .val (.ref cEXPTIME), .val (.ref (f1 aTAIL_RECURSIVE t0_18 cPSPACE cEXPTIME)), .unset] [(.ref cPSPACE)])
              refine Goes.step (fun _ k => XS.astore X16.here hx rfl (hb hby at_139) rfl rfl (l' := #[.val (.int p1), .val (.int p2), .val (.int ((p1 &&& (2147483647 : Int32)) % (5 : Int32))), .val (.int t0_18), .val (.ref aTAIL_RECURSIVE), .val (.ref cPSPACE), .val (.ref cEXPTIME), .val (.ref (f1 aTAIL_RECURSIVE t0_18 cPSPACE cEXPTIME)), .val (.ref cPSPACE)]) rfl k) ?_
              show Goes p e below s _ _ _ T16 (mkF m 141 #[.val (.int p1), .val (.int p2), .val (.int ((p1 &&& (2147483647 : Int32)) % (5 : Int32))), .val (.int t0_18), .val (.ref aTAIL_RECURSIVE), .val (.ref cPSPACE), .val (.ref cEXPTIME), .val (.ref (f1 aTAIL_RECURSIVE t0_18 cPSPACE cEXPTIME)), .val (.ref cPSPACE)] [])
              refine Goes.step (fun _ k => XS.goto X16.here hx rfl (pc0 := 141) (pc' := 148) rfl (hb hby at_141) (by decide) (by decide) k) ?_
              show Goes p e below s _ _ _ T16 (mkF m 148 #[.val (.int p1), .val (.int p2), .val (.int ((p1 &&& (2147483647 : Int32)) % (5 : Int32))), .val (.int t0_18), .val (.ref aTAIL_RECURSIVE), .val (.ref cPSPACE), .val (.ref cEXPTIME), .val (.ref (f1 aTAIL_RECURSIVE t0_18 cPSPACE cEXPTIME)), .val (.ref cPSPACE)] [])
              exact B148 T16 X16 e16 t0_18 aTAIL_RECURSIVE cPSPACE cEXPTIME (f1 aTAIL_RECURSIVE t0_18 cPSPACE cEXPTIME) cPSPACE
          · refine Goes.step (fun _ k => XS.icmpYes X.here hx rfl (pc0 := 89) (pc' := 110) rfl (hb hby at_89) rfl (feq hc89).2 (by decide) (by decide) k) ?_
            show Goes p e below s _ _ _ T (mkF m 110 #[.val (.int p1), .val (.int p2), .val (.int ((p1 &&& (2147483647 : Int32)) % (5 : Int32))), .val (.int t0_18), .unset, .unset, .unset, .unset, .unset] [])
            obtain ⟨T17, X17, e17, st17⟩ := getS2 X hx hZ hown (host := "") (Or.inl (hw _ (List.mem_of_getElem? (i := 16) rfl))) Via.refl eT S_ARBITRARY (g := (mkF m 110 #[.val (.int p1), .val (.int p2), .val (.int ((p1 &&& (2147483647 : Int32)) % (5 : Int32))), .val (.int t0_18), .unset, .unset, .unset, .unset, .unset] [])) rfl (hb hby at_110)
            refine Goes.step st17 ?_
            show Goes p e below s _ _ _ T17 (mkF m 113 #[.val (.int p1), .val (.int p2), .val (.int ((p1 &&& (2147483647 : Int32)) % (5 : Int32))), .val (.int t0_18), .unset, .unset, .unset, .unset, .unset] [(.ref aARBITRARY)])
            refine Goes.step (fun _ k => XS.astore X17.here hx rfl (hb hby at_113) rfl rfl (l' := #[.val (.int p1), .val (.int p2), .val (.int ((p1 &&& (2147483647 : Int32)) % (5 : Int32))), .val (.int t0_18), .val (.ref aARBITRARY), .unset, .unset, .unset, .unset]) rfl k) ?_
            show Goes p e below s _ _ _ T17 (mkF m 115 #[.val (.int p1), .val (.int p2), .val (.int ((p1 &&& (2147483647 : Int32)) % (5 : Int32))), .val (.int t0_18), .val (.ref aARBITRARY), .unset, .unset, .unset, .unset] [])
            obtain ⟨T18, X18, e18, st18⟩ := getS2 X17 hx hZ hown (host := "") (Or.inl (hw _ (List.mem_of_getElem? (i := 18) rfl))) Via.refl e17 S_EXPTIME (g := (mkF m 115 #[.val (.int p1), .val (.int p2), .val (.int ((p1 &&& (2147483647 : Int32)) % (5 : Int32))), .val (.int t0_18), .val (.ref aARBITRARY), .unset, .unset, .unset, .unset] [])) rfl (hb hby at_115)
            refine Goes.step st18 ?_
            show Goes p e below s _ _ _ T18 (mkF m 118 #[.val (.int p1), .val (.int p2), .val (.int ((p1 &&& (2147483647 : Int32)) % (5 : Int32))), .val (.int t0_18), .val (.ref aARBITRARY), .unset, .unset, .unset, .unset] [(.ref cEXPTIME)])
            refine Goes.step (fun _ k => XS.astore X18.here hx rfl (hb hby at_118) rfl rfl (l' := #[.val (.int p1), .val (.int p2), .val (.int ((p1 &&& (2147483647 : Int32)) % (5 : Int32))), .val (.int t0_18), .val (.ref aARBITRARY), .val (.ref cEXPTIME), .unset, .unset, .unset]) rfl k) ?_
            show Goes p e below s _ _ _ T18 (mkF m 120 #[.val (.int p1), .val (.int p2), .val (.int ((p1 &&& (2147483647 : Int32)) % (5 : Int32))), .val (.int t0_18), .val (.ref aARBITRARY), .val (.ref cEXPTIME), .unset, .unset, .unset] [])
            obtain ⟨T19, X19, e19, st19⟩ := getS2 X18 hx hZ hown (host := "") (Or.inl (hw _ (List.mem_of_getElem? (i := 20) rfl))) Via.refl e18 S_UNDECIDABLE (g := (mkF m 120 #[.val (.int p1), .val (.int p2), .val (.int ((p1 &&& (2147483647 : Int32)) % (5 : Int32))), .val (.int t0_18), .val (.ref aARBITRARY), .val (.ref cEXPTIME), .unset, .unset, .unset] [])) rfl (hb hby at_120)
            refine Goes.step st19 ?_
            show Goes p e below s _ _ _ T19 (mkF m 123 #[.val (.int p1), .val (.int p2), .val (.int ((p1 &&& (2147483647 : Int32)) % (5 : Int32))), .val (.int t0_18), .val (.ref aARBITRARY), .val (.ref cEXPTIME), .unset, .unset, .unset] [(.ref cUNDECIDABLE)])
            refine Goes.step (fun _ k => XS.astore X19.here hx rfl (hb hby at_123) rfl rfl (l' := #[.val (.int p1), .val (.int p2), .val (.int ((p1 &&& (2147483647 : Int32)) % (5 : Int32))), .val (.int t0_18), .val (.ref aARBITRARY), .val (.ref cEXPTIME), .val (.ref cUNDECIDABLE), .unset, .unset]) rfl k) ?_
            show Goes p e below s _ _ _ T19 (mkF m 125 #[.val (.int p1), .val (.int p2), .val (.int ((p1 &&& (2147483647 : Int32)) % (5 : Int32))), .val (.int t0_18), .val (.ref aARBITRARY), .val (.ref cEXPTIME), .val (.ref cUNDECIDABLE), .unset, .unset] [])
            refine Goes.step (fun _ k => XS.aload X19.here hx rfl (hb hby at_125) rfl rfl k) ?_
            show Goes p e below s _ _ _ T19 (mkF m 127 #[.val (.int p1), .val (.int p2), .val (.int ((p1 &&& (2147483647 : Int32)) % (5 : Int32))), .val (.int t0_18), .val (.ref aARBITRARY), .val (.ref cEXPTIME), .val (.ref cUNDECIDABLE), .unset, .unset] [(.ref aARBITRARY)])
            refine Goes.step (fun _ k => XS.iloadN X19.here hx rfl (hb hby at_127) rfl k) ?_
            show Goes p e below s _ _ _ T19 (mkF m 128 #[.val (.int p1), .val (.int p2), .val (.int ((p1 &&& (2147483647 : Int32)) % (5 : Int32))), .val (.int t0_18), .val (.ref aARBITRARY), .val (.ref cEXPTIME), .val (.ref cUNDECIDABLE), .unset, .unset] [(.int t0_18), (.ref aARBITRARY)])
            obtain ⟨T20, X20, e20, st20⟩ := callPureV X19 hx hZ (C := "com/example/decompose/decompose/model/analysis/Hierarchy") (y := (⟨"com/example/decompose/decompose/model/analysis/Hierarchy", "planExistence", "(Z)Lcom/example/decompose/decompose/model/analysis/Complexity;"⟩ : MethodName)) (z := (⟨"com/example/decompose/decompose/model/analysis/Hierarchy", "planExistence", "(Z)Lcom/example/decompose/decompose/model/analysis/Complexity;"⟩ : MethodName)) hown (hw _ (List.mem_of_getElem? (i := 9) rfl)) (hw _ (List.mem_of_getElem? (i := 10) rfl)) (hw _ (List.mem_of_getElem? (i := 12) rfl)) (hw _ (List.mem_of_getElem? (i := 11) rfl)) (hw _ (List.mem_of_getElem? (i := 13) rfl)) (hw _ (List.mem_of_getElem? (i := 2) rfl)) (notFace_of_selects (args := #[]) (mvT hZ (hw _ (List.mem_of_getElem? (i := 12) rfl)))) (by decide) (W := 0) (argsL := [(.int t0_18)]) (rest := []) (r := (.ref (f1 aARBITRARY t0_18 cEXPTIME cUNDECIDABLE))) (fun _ _ _ q => q) (rm1 l Z a0 hw [] aARBITRARY t0_18 cEXPTIME cUNDECIDABLE h0 T_ARBITRARY U_ARBITRARY) (by decide) (by decide) (by decide) (by decide) e19 E_ARBITRARY (g := (mkF m 128 #[.val (.int p1), .val (.int p2), .val (.int ((p1 &&& (2147483647 : Int32)) % (5 : Int32))), .val (.int t0_18), .val (.ref aARBITRARY), .val (.ref cEXPTIME), .val (.ref cUNDECIDABLE), .unset, .unset] [(.int t0_18), (.ref aARBITRARY)])) rfl (by rw [hml]; rfl) (lenOf pd_0_0 rfl) rfl (by show 2 * 0 + _ ≤ _; exact Nat.le_of_eq rfl) (hb hby at_128)
            refine Goes.step st20 ?_
            show Goes p e below s _ _ _ T20 (mkF m 131 #[.val (.int p1), .val (.int p2), .val (.int ((p1 &&& (2147483647 : Int32)) % (5 : Int32))), .val (.int t0_18), .val (.ref aARBITRARY), .val (.ref cEXPTIME), .val (.ref cUNDECIDABLE), .unset, .unset] [(.ref (f1 aARBITRARY t0_18 cEXPTIME cUNDECIDABLE))])
            refine Goes.step (fun _ k => XS.astore X20.here hx rfl (hb hby at_131) rfl rfl (l' := #[.val (.int p1), .val (.int p2), .val (.int ((p1 &&& (2147483647 : Int32)) % (5 : Int32))), .val (.int t0_18), .val (.ref aARBITRARY), .val (.ref cEXPTIME), .val (.ref cUNDECIDABLE), .val (.ref (f1 aARBITRARY t0_18 cEXPTIME cUNDECIDABLE)), .unset]) rfl k) ?_
            show Goes p e below s _ _ _ T20 (mkF m 133 #[.val (.int p1), .val (.int p2), .val (.int ((p1 &&& (2147483647 : Int32)) % (5 : Int32))), .val (.int t0_18), .val (.ref aARBITRARY), .val (.ref cEXPTIME), .val (.ref cUNDECIDABLE), .val (.ref (f1 aARBITRARY t0_18 cEXPTIME cUNDECIDABLE)), .unset] [])
            refine Goes.step (fun _ k => XS.iloadN X20.here hx rfl (hb hby at_133) rfl k) ?_
            show Goes p e below s _ _ _ T20 (mkF m 134 #[.val (.int p1), .val (.int p2), .val (.int ((p1 &&& (2147483647 : Int32)) % (5 : Int32))), .val (.int t0_18), .val (.ref aARBITRARY), .val (.ref cEXPTIME), .val (.ref cUNDECIDABLE), .val (.ref (f1 aARBITRARY t0_18 cEXPTIME cUNDECIDABLE)), .unset] [(.int t0_18)])
            refine Goes.ite (Q := PI h0) (fun hc134 => ?_) (fun hc134 => ?_)
            · refine Goes.step (fun _ k => XS.ifYes X20.here hx rfl (pc0 := 134) (pc' := 144) rfl (hb hby at_134) rfl ((if0 _ _).trans (teq hc134).1) (by decide) (by decide) k) ?_
              show Goes p e below s _ _ _ T20 (mkF m 144 #[.val (.int p1), .val (.int p2), .val (.int ((p1 &&& (2147483647 : Int32)) % (5 : Int32))), .val (.int t0_18), .val (.ref aARBITRARY), .val (.ref cEXPTIME), .val (.ref cUNDECIDABLE), .val (.ref (f1 aARBITRARY t0_18 cEXPTIME cUNDECIDABLE)), .unset] [])
              refine Goes.step (fun _ k => XS.aload X20.here hx rfl (hb hby at_144) rfl rfl k) ?_
              show Goes p e below s _ _ _ T20 (mkF m 146 #[.val (.int p1), .val (.int p2), .val (.int ((p1 &&& (2147483647 : Int32)) % (5 : Int32))), .val (.int t0_18), .val (.ref aARBITRARY), .val (.ref cEXPTIME), .val (.ref cUNDECIDABLE), .val (.ref (f1 aARBITRARY t0_18 cEXPTIME cUNDECIDABLE)), .unset] [(.ref cUNDECIDABLE)])
              refine Goes.step (fun _ k => XS.astore X20.here hx rfl (hb hby at_146) rfl rfl (l' := #[.val (.int p1), .val (.int p2), .val (.int ((p1 &&& (2147483647 : Int32)) % (5 : Int32))), .val (.int t0_18), .val (.ref aARBITRARY), .val (.ref cEXPTIME), .val (.ref cUNDECIDABLE), .val (.ref (f1 aARBITRARY t0_18 cEXPTIME cUNDECIDABLE)), .val (.ref cUNDECIDABLE)]) rfl k) ?_
              show Goes p e below s _ _ _ T20 (mkF m 148 #[.val (.int p1), .val (.int p2), .val (.int ((p1 &&& (2147483647 : Int32)) % (5 : Int32))), .val (.int t0_18), .val (.ref aARBITRARY), .val (.ref cEXPTIME), .val (.ref cUNDECIDABLE), .val (.ref (f1 aARBITRARY t0_18 cEXPTIME cUNDECIDABLE)), .val (.ref cUNDECIDABLE)] [])
              exact B148 T20 X20 e20 t0_18 aARBITRARY cEXPTIME cUNDECIDABLE (f1 aARBITRARY t0_18 cEXPTIME cUNDECIDABLE) cUNDECIDABLE
            · refine Goes.step (fun _ k => XS.ifNo X20.here hx rfl (hb hby at_134) rfl ((if0 _ _).trans (feq hc134).1) k) ?_
              show Goes p e below s _ _ _ T20 (mkF m 137 #[.val (.int p1), .val (.int p2), .val (.int ((p1 &&& (2147483647 : Int32)) % (5 : Int32))), .val (.int t0_18), .val (.ref aARBITRARY), .val (.ref cEXPTIME), .val (.ref cUNDECIDABLE), .val (.ref (f1 aARBITRARY t0_18 cEXPTIME cUNDECIDABLE)), .unset] [])
              refine Goes.step (fun _ k => XS.aload X20.here hx rfl (hb hby at_137) rfl rfl k) ?_
              show Goes p e below s _ _ _ T20 (mkF m 139 #[.val (.int p1), .val (.int p2), .val (.int ((p1 &&& (2147483647 : Int32)) % (5 : Int32))), .val (.int t0_18), .val (.ref aARBITRARY), .val (.ref cEXPTIME), .val (.ref cUNDECIDABLE), .val (.ref (f1 aARBITRARY t0_18 cEXPTIME cUNDECIDABLE)), .unset] [(.ref cEXPTIME)])
              refine Goes.step (fun _ k => XS.astore X20.here hx rfl (hb hby at_139) rfl rfl (l' := #[.val (.int p1), .val (.int p2), .val (.int ((p1 &&& (2147483647 : Int32)) % (5 : Int32))), .val (.int t0_18), .val (.ref aARBITRARY), .val (.ref cEXPTIME), .val (.ref cUNDECIDABLE), .val (.ref (f1 aARBITRARY t0_18 cEXPTIME cUNDECIDABLE)), .val (.ref cEXPTIME)]) rfl k) ?_
              show Goes p e below s _ _ _ T20 (mkF m 141 #[.val (.int p1), .val (.int p2), .val (.int ((p1 &&& (2147483647 : Int32)) % (5 : Int32))), .val (.int t0_18), .val (.ref aARBITRARY), .val (.ref cEXPTIME), .val (.ref cUNDECIDABLE), .val (.ref (f1 aARBITRARY t0_18 cEXPTIME cUNDECIDABLE)), .val (.ref cEXPTIME)] [])
              refine Goes.step (fun _ k => XS.goto X20.here hx rfl (pc0 := 141) (pc' := 148) rfl (hb hby at_141) (by decide) (by decide) k) ?_
              show Goes p e below s _ _ _ T20 (mkF m 148 #[.val (.int p1), .val (.int p2), .val (.int ((p1 &&& (2147483647 : Int32)) % (5 : Int32))), .val (.int t0_18), .val (.ref aARBITRARY), .val (.ref cEXPTIME), .val (.ref cUNDECIDABLE), .val (.ref (f1 aARBITRARY t0_18 cEXPTIME cUNDECIDABLE)), .val (.ref cEXPTIME)] [])
              exact B148 T20 X20 e20 t0_18 aARBITRARY cEXPTIME cUNDECIDABLE (f1 aARBITRARY t0_18 cEXPTIME cUNDECIDABLE) cEXPTIME
  show Goes p e below s room_1.cells room_1.slots (PI h0 (f0 p1 p2 aNONE aACYCLIC aREGULAR aTAIL_RECURSIVE aARBITRARY cIN_P cNP cPSPACE cNEXPTIME cEXPTIME cUNDECIDABLE)) s₁ (entryFrame m #[(.int p1), (.int p2)] maxLocals)
  refine Goes.step (fun t k => castTop (ef_0 m p1 p2) k) ?_
  refine Goes.step (fun _ k => XS.iloadN X0.here hx rfl (hb hby at_0) rfl k) ?_
  show Goes p e below s _ _ _ s₁ (mkF m 1 #[.val (.int p1), .val (.int p2), .unset, .unset, .unset, .unset, .unset, .unset, .unset] [(.int p1)])
  refine Goes.step (fun _ k => X0.ldcInt hx hown (mvT hZ (hw _ (List.mem_of_getElem? (i := 0) rfl))) (g := (mkF m 1 #[.val (.int p1), .val (.int p2), .unset, .unset, .unset, .unset, .unset, .unset, .unset] [(.int p1)])) rfl (hb hby at_1) _ k) ?_
  show Goes p e below s _ _ _ s₁ (mkF m 3 #[.val (.int p1), .val (.int p2), .unset, .unset, .unset, .unset, .unset, .unset, .unset] [(.int (2147483647 : Int32)), (.int p1)])
  refine Goes.step (fun _ k => XS.iand X0.here hx rfl (hb hby at_3) rfl k) ?_
  show Goes p e below s _ _ _ s₁ (mkF m 4 #[.val (.int p1), .val (.int p2), .unset, .unset, .unset, .unset, .unset, .unset, .unset] [(.int (p1 &&& (2147483647 : Int32)))])
  refine Goes.step (fun _ k => XS.iconst X0.here hx rfl (hb hby at_4) k) ?_
  show Goes p e below s _ _ _ s₁ (mkF m 5 #[.val (.int p1), .val (.int p2), .unset, .unset, .unset, .unset, .unset, .unset, .unset] [(.int (5 : Int32)), (.int (p1 &&& (2147483647 : Int32)))])
  refine Goes.step (fun _ k => iremM X0 hx rfl (hb hby at_5) rfl (by decide) k) ?_
  show Goes p e below s _ _ _ s₁ (mkF m 6 #[.val (.int p1), .val (.int p2), .unset, .unset, .unset, .unset, .unset, .unset, .unset] [(.int ((p1 &&& (2147483647 : Int32)) % (5 : Int32)))])
  refine Goes.step (fun _ k => XS.istoreN X0.here hx rfl (hb hby at_6) rfl (l' := #[.val (.int p1), .val (.int p2), .val (.int ((p1 &&& (2147483647 : Int32)) % (5 : Int32))), .unset, .unset, .unset, .unset, .unset, .unset]) rfl k) ?_
  show Goes p e below s _ _ _ s₁ (mkF m 7 #[.val (.int p1), .val (.int p2), .val (.int ((p1 &&& (2147483647 : Int32)) % (5 : Int32))), .unset, .unset, .unset, .unset, .unset, .unset] [])
  refine Goes.step (fun _ k => XS.iloadN X0.here hx rfl (hb hby at_7) rfl k) ?_
  show Goes p e below s _ _ _ s₁ (mkF m 8 #[.val (.int p1), .val (.int p2), .val (.int ((p1 &&& (2147483647 : Int32)) % (5 : Int32))), .unset, .unset, .unset, .unset, .unset, .unset] [(.int p2)])
  refine Goes.step (fun _ k => XS.iconst X0.here hx rfl (hb hby at_8) k) ?_
  show Goes p e below s _ _ _ s₁ (mkF m 9 #[.val (.int p1), .val (.int p2), .val (.int ((p1 &&& (2147483647 : Int32)) % (5 : Int32))), .unset, .unset, .unset, .unset, .unset, .unset] [(.int (1 : Int32)), (.int p2)])
  refine Goes.step (fun _ k => XS.iand X0.here hx rfl (hb hby at_9) rfl k) ?_
  show Goes p e below s _ _ _ s₁ (mkF m 10 #[.val (.int p1), .val (.int p2), .val (.int ((p1 &&& (2147483647 : Int32)) % (5 : Int32))), .unset, .unset, .unset, .unset, .unset, .unset] [(.int (p2 &&& (1 : Int32)))])
  refine Goes.ite (Q := PI h0) (fun hc10 => ?_) (fun hc10 => ?_)
  · refine Goes.step (fun _ k => XS.ifYes X0.here hx rfl (pc0 := 10) (pc' := 17) rfl (hb hby at_10) rfl ((if0 _ _).trans (teq hc10).1) (by decide) (by decide) k) ?_
    show Goes p e below s _ _ _ s₁ (mkF m 17 #[.val (.int p1), .val (.int p2), .val (.int ((p1 &&& (2147483647 : Int32)) % (5 : Int32))), .unset, .unset, .unset, .unset, .unset, .unset] [])
    refine Goes.step (fun _ k => XS.iconst X0.here hx rfl (hb hby at_17) k) ?_
    show Goes p e below s _ _ _ s₁ (mkF m 18 #[.val (.int p1), .val (.int p2), .val (.int ((p1 &&& (2147483647 : Int32)) % (5 : Int32))), .unset, .unset, .unset, .unset, .unset, .unset] [(.int (0 : Int32))])
    exact B18 s₁ X0 e0 (0 : Int32)
  · refine Goes.step (fun _ k => XS.ifNo X0.here hx rfl (hb hby at_10) rfl ((if0 _ _).trans (feq hc10).1) k) ?_
    show Goes p e below s _ _ _ s₁ (mkF m 13 #[.val (.int p1), .val (.int p2), .val (.int ((p1 &&& (2147483647 : Int32)) % (5 : Int32))), .unset, .unset, .unset, .unset, .unset, .unset] [])
    refine Goes.step (fun _ k => XS.iconst X0.here hx rfl (hb hby at_13) k) ?_
    show Goes p e below s _ _ _ s₁ (mkF m 14 #[.val (.int p1), .val (.int p2), .val (.int ((p1 &&& (2147483647 : Int32)) % (5 : Int32))), .unset, .unset, .unset, .unset, .unset, .unset] [(.int (1 : Int32))])
    refine Goes.step (fun _ k => XS.goto X0.here hx rfl (pc0 := 14) (pc' := 18) rfl (hb hby at_14) (by decide) (by decide) k) ?_
    show Goes p e below s _ _ _ s₁ (mkF m 18 #[.val (.int p1), .val (.int p2), .val (.int ((p1 &&& (2147483647 : Int32)) % (5 : Int32))), .unset, .unset, .unset, .unset, .unset, .unset] [(.int (1 : Int32))])
    exact B18 s₁ X0 e0 (1 : Int32)
theorem own_law (p1 : Int32) (p2 : Int32) (aNONE : Addr) (aACYCLIC : Addr) (aREGULAR : Addr) (aTAIL_RECURSIVE : Addr) (aARBITRARY : Addr) (cIN_P : Addr) (cNP : Addr) (cPSPACE : Addr) (cNEXPTIME : Addr) (cEXPTIME : Addr) (cUNDECIDABLE : Addr) : f0 p1 p2 aNONE aACYCLIC aREGULAR aTAIL_RECURSIVE aARBITRARY cIN_P cNP cPSPACE cNEXPTIME cEXPTIME cUNDECIDABLE = 1 := by
  simp only [f0, f0_18, f0_148, f1]
  generalize (p1 &&& (2147483647 : Int32)) % (5 : Int32) = k
  by_cases h : p2 &&& (1 : Int32) = (0 : Int32) <;> simp [h]
set_option maxRecDepth 65536 in
set_option maxHeartbeats 40000000 in
theorem comes_1 {Post : Tables → Env → Array Value → State → Outcome → State → Prop} (hpost : ∀ tb e args s v u, (limb_1_1.after args s (.returned v) u = true ∧ limb_1_2.after args s (.returned v) u = true ∧ True) → FrameEnd s (.returned v) u (Jvm.fieldLocs frame_1_writes args s ++ Jvm.arrayLocs frame_1_arrays args s ++ Jvm.staticLocs frame_1_statics s) 0 0 → Post tb e args s (.returned v) u) :
    ArmFor flags0 classFile x code maxLocals ret World_1 tables_1 room_1 Calls_1 rest_1 Pre_1 Post := by
  intro l hfl _ _ p e ha hc hk s m args below hf hA hF happ hP
  obtain ⟨hcalls, hrest, hpre⟩ := hP
  obtain ⟨-, -, -, hnamed, -, -, -, hat⟩ := (Spec.applies_iff hf).mp happ
  obtain ⟨hg, hn⟩ := and_e (Cond.before_iff.mp (show (Jvm.Cond.and given_1 narrow_1).before args s = true from hpre))
  obtain ⟨hcnt, g0⟩ := and_e hg
  obtain ⟨i0, g1⟩ := and_e g0
  have i1 := g1
  obtain ⟨w0, w1, rfl⟩ : ∃ w0 w1 : Value, args = #[w0, w1] := by
    have hs : args.size = 2 := by simpa [Cond.value, given_1] using hcnt
    obtain ⟨L⟩ := args
    match L, hs with
    | [w0, w1], _ => exact ⟨w0, w1, rfl⟩
  have hw := fun d (hd : d ∈ tables_1) => atoms_spec (ws := Jvm.Cond.code x code maxLocals ret :: tables_1) hat d (List.mem_cons_of_mem _ hd)
  obtain ⟨z0, e0⟩ := is_v i0
  obtain rfl : w0 = (.int z0) := Option.some.inj e0
  obtain ⟨z1, e1⟩ := is_v i1
  obtain rfl : w1 = (.int z1) := Option.some.inj e1
  have m0 := hn
  obtain ⟨n0, m1⟩ := and_e m0
  obtain ⟨n1, m2⟩ := and_e m1
  obtain ⟨n2, m3⟩ := and_e m2
  obtain ⟨n3, m4⟩ := and_e m3
  obtain ⟨n4, m5⟩ := and_e m4
  obtain ⟨n5, m6⟩ := and_e m5
  obtain ⟨n6, m7⟩ := and_e m6
  obtain ⟨n7, m8⟩ := and_e m7
  obtain ⟨n8, m9⟩ := and_e m8
  obtain ⟨n9, m10⟩ := and_e m9
  obtain ⟨n10, m11⟩ := and_e m10
  obtain ⟨n11, m12⟩ := and_e m11
  obtain ⟨n12, m13⟩ := and_e m12
  obtain ⟨n13, m14⟩ := and_e m13
  obtain ⟨n14, m15⟩ := and_e m14
  obtain ⟨n15, m16⟩ := and_e m15
  obtain ⟨n16, m17⟩ := and_e m16
  obtain ⟨n17, m18⟩ := and_e m17
  obtain ⟨n18, m19⟩ := and_e m18
  obtain ⟨n19, m20⟩ := and_e m19
  have n20 := m20
  obtain ⟨aNONE, ev_NONE, E_NONE, S_NONE⟩ := own_static n0 (hw _ (List.mem_of_getElem? (i := 2) rfl)) (hw _ (List.mem_of_getElem? (i := 3) rfl))
  obtain ⟨cIN_P, ev_IN_P, E_IN_P, S_IN_P⟩ := own_static n1 (hw _ (List.mem_of_getElem? (i := 5) rfl)) (hw _ (List.mem_of_getElem? (i := 6) rfl))
  obtain ⟨cNP, ev_NP, E_NP, S_NP⟩ := own_static n2 (hw _ (List.mem_of_getElem? (i := 5) rfl)) (hw _ (List.mem_of_getElem? (i := 8) rfl))
  obtain ⟨aARBITRARY, ev_ARBITRARY, E_ARBITRARY, S_ARBITRARY⟩ := own_static n4 (hw _ (List.mem_of_getElem? (i := 2) rfl)) (hw _ (List.mem_of_getElem? (i := 17) rfl))
  obtain ⟨cEXPTIME, ev_EXPTIME, E_EXPTIME, S_EXPTIME⟩ := own_static n5 (hw _ (List.mem_of_getElem? (i := 5) rfl)) (hw _ (List.mem_of_getElem? (i := 19) rfl))
  obtain ⟨cUNDECIDABLE, ev_UNDECIDABLE, E_UNDECIDABLE, S_UNDECIDABLE⟩ := own_static n6 (hw _ (List.mem_of_getElem? (i := 5) rfl)) (hw _ (List.mem_of_getElem? (i := 21) rfl))
  obtain ⟨aTAIL_RECURSIVE, ev_TAIL_RECURSIVE, E_TAIL_RECURSIVE, S_TAIL_RECURSIVE⟩ := own_static n8 (hw _ (List.mem_of_getElem? (i := 2) rfl)) (hw _ (List.mem_of_getElem? (i := 23) rfl))
  obtain ⟨cPSPACE, ev_PSPACE, E_PSPACE, S_PSPACE⟩ := own_static n9 (hw _ (List.mem_of_getElem? (i := 5) rfl)) (hw _ (List.mem_of_getElem? (i := 25) rfl))
  obtain ⟨aACYCLIC, ev_ACYCLIC, E_ACYCLIC, S_ACYCLIC⟩ := own_static n11 (hw _ (List.mem_of_getElem? (i := 2) rfl)) (hw _ (List.mem_of_getElem? (i := 27) rfl))
  obtain ⟨cNEXPTIME, ev_NEXPTIME, E_NEXPTIME, S_NEXPTIME⟩ := own_static n12 (hw _ (List.mem_of_getElem? (i := 5) rfl)) (hw _ (List.mem_of_getElem? (i := 29) rfl))
  obtain ⟨aREGULAR, ev_REGULAR, E_REGULAR, S_REGULAR⟩ := own_static n14 (hw _ (List.mem_of_getElem? (i := 2) rfl)) (hw _ (List.mem_of_getElem? (i := 33) rfl))
  have T_NONE := own_fieldR n3 ev_NONE ev_IN_P
  have T_ARBITRARY := own_fieldR n7 ev_ARBITRARY ev_EXPTIME
  have T_TAIL_RECURSIVE := own_fieldR n10 ev_TAIL_RECURSIVE ev_PSPACE
  have U_ACYCLIC := own_fieldR n13 ev_ACYCLIC ev_NEXPTIME
  have T_REGULAR := own_fieldR n15 ev_REGULAR ev_PSPACE
  have U_ARBITRARY := own_fieldR n16 ev_ARBITRARY ev_UNDECIDABLE
  have T_ACYCLIC := own_fieldR n17 ev_ACYCLIC ev_PSPACE
  have U_REGULAR := own_fieldR n18 ev_REGULAR ev_PSPACE
  have U_NONE := own_fieldR n19 ev_NONE ev_NP
  have U_TAIL_RECURSIVE := own_fieldR n20 ev_TAIL_RECURSIVE ev_EXPTIME
  obtain ⟨n, o, h1, h2, h3, v, L, rfl, ⟨rfl, rfl, hh⟩, hq⟩ := rm0 l s _ hw tables_1 z0 z1 aNONE aACYCLIC aREGULAR aTAIL_RECURSIVE aARBITRARY cIN_P cNP cPSPACE cNEXPTIME cEXPTIME cUNDECIDABLE s.heap S_NONE S_ACYCLIC S_REGULAR S_TAIL_RECURSIVE S_ARBITRARY S_IN_P S_NP S_PSPACE S_NEXPTIME S_EXPTIME S_UNDECIDABLE E_NONE E_ACYCLIC E_REGULAR E_TAIL_RECURSIVE E_ARBITRARY T_NONE U_NONE T_ACYCLIC U_ACYCLIC T_REGULAR U_REGULAR T_TAIL_RECURSIVE U_TAIL_RECURSIVE T_ARBITRARY U_ARBITRARY p e ha hc hk s m _ below hf ((Spec.applies_iff_loose hf).mp happ).1 ⟨rfl, State.Warmed39.refl s, rfl⟩ trivial
  have hlaw := own_law z0 z1 aNONE aACYCLIC aREGULAR aTAIL_RECURSIVE aARBITRARY cIN_P cNP cPSPACE cNEXPTIME cEXPTIME cUNDECIDABLE
  refine ⟨n, _, h1, h2, h3, hpost _ _ _ _ _ _ ⟨Cond.after_iff.mpr rfl, Cond.after_iff.mpr (eq_i res_at (Term.int_eval (1)) (by rw [hlaw])), trivial⟩ ⟨hq.1, hq.2.1, (hq.2.2.sift fun y hy => by cases hy).mono (by decide) (by decide)⟩⟩
theorem main_1_1 : Claimed_1_1 := comes_1 fun _ _ _ _ _ _ h hF => ⟨h.1, hF⟩
theorem main_1_2 : Claimed_1_2 := comes_1 fun _ _ _ _ _ _ h hF => ⟨h.2.1, hF⟩
end Jvm.Pilot.@@N@@
namespace Jvm.Pilot.@@N@@
open Jvm Jvm.ClassFile Sem Op Lib Jvm.Free Jvm.Stand Jvm.Pilot.@@N@@.Jvm.D
/-! MADE BY PROGRAM (witnessworld.py) out of the Statement's table words and the real class files: 11 classes; the members and pool entries that the words name. The judged class is class 1, her method 1. -/
namespace start1
open Jvm.ClassFile
def u (s : String) : CpInfo := .utf8 (stringToUtf16 s)
/-- a pool by its gaps: so many unusable entries, then the entry; so many at the end -/
def gap : Nat → List CpInfo → List CpInfo
  | 0, r => r
  | n + 1, r => .unusable :: gap n r
def poolList (es : List (Nat × CpInfo)) (last : Nat) : List CpInfo := es.foldr (fun e r => gap e.1 (e.2 :: r)) (gap last [])
def pool (es : List (Nat × CpInfo)) (last : Nat) : Array CpInfo := ⟨poolList es last⟩
def fileOf (pool : Array CpInfo) (this : Nat) (attrs : Array Attribute := #[]) (ms : Array MethodInfo := #[]) (fl : Nat := 33) (sup : Nat := 0) (ifs : Array Nat := #[]) (fds : Array FieldInfo := #[]) : ClassFile where
  minorVersion := 0
  majorVersion := 65
  constantPool := pool
  accessFlags := fl
  thisClass := this
  superClass := sup
  interfaces := ifs
  fields := fds
  methods := ms
  attributes := attrs
def plain (name : String) (sup : Option ClassId) : Class where
  name := name
  kind := .ordinary
  loader := none
  accessFlags := 33
  super := sup
  interfaces := #[]
  cf := none
  fields := #[]
  methods := #[]
  instanceTypes := #[]
  staticTypes := #[]
  resolved := #[]
  callSites := []
  init := .initialized
  statics := none
  mirror := none

def pool0 : Array CpInfo := pool [(5, u "<init>"), (0, u "()V"), (1, .class_ 10), (1, u "java/lang/Object")] 113

def k0m0 : Method := { name := "<init>", desc := "()V", sig := { parameters := [], returnType := none }, accessFlags := 1, code := none }
/-- java/lang/Object -/
def k0 : Class := { plain "java/lang/Object" none with
  accessFlags := 33
  interfaces := #[]
  cf := some (fileOf pool0 8 #[] #[{ accessFlags := 1, nameIndex := 5, descriptorIndex := 6, attributes := #[] }] 33 0 #[] #[])
  fields := #[]
  methods := #[k0m0]
  instanceTypes := #[]
  staticTypes := #[]
  resolved := Array.replicate 124 none
  statics := none }

def pool1 : Array CpInfo := pool [(2, .class_ 4), (1, u "java/lang/Object"), (0, u "<init>"), (0, u "()V"), (0, .integer 2147483647), (0, .fieldref 9 10), (0, .class_ 11), (0, .nameAndType 12 13), (0, u "com/example/decompose/decompose/model/analysis/Hierarchy"), (0, u "NONE"), (0, u "Lcom/example/decompose/decompose/model/analysis/Hierarchy;"), (0, .fieldref 15 16), (0, .class_ 17), (0, .nameAndType 18 19), (0, u "com/example/decompose/decompose/model/analysis/Complexity"), (0, u "IN_P"), (0, u "Lcom/example/decompose/decompose/model/analysis/Complexity;"), (0, .fieldref 15 21), (0, .nameAndType 22 19), (0, u "NP"), (0, .fieldref 9 24), (0, .nameAndType 25 13), (0, u "ACYCLIC"), (0, .fieldref 15 27), (0, .nameAndType 28 19), (0, u "PSPACE"), (0, .fieldref 15 30), (0, .nameAndType 31 19), (0, u "NEXPTIME"), (0, .fieldref 9 33), (0, .nameAndType 34 13), (0, u "REGULAR"), (0, .fieldref 9 36), (0, .nameAndType 37 13), (0, u "TAIL_RECURSIVE"), (0, .fieldref 15 39), (0, .nameAndType 40 19), (0, u "EXPTIME"), (0, .fieldref 9 42), (0, .nameAndType 43 13), (0, u "ARBITRARY"), (0, .fieldref 15 45), (0, .nameAndType 46 19), (0, u "UNDECIDABLE"), (0, .methodref 9 48), (0, .nameAndType 49 50), (0, u "planExistence"), (0, u "(Z)Lcom/example/decompose/decompose/model/analysis/Complexity;"), (0, .class_ 52), (0, u "com/example/decompose/decompose/model/analysis/HierarchyPlanExistencePinLaw"), (2, u "law"), (0, u "(II)Z")] 3

def k1m0 : Method := { name := "<init>", desc := "()V", sig := { parameters := [], returnType := none }, accessFlags := 1, code := none }
def k1c1 : Code := { maxStack := 2, maxLocals := 9, code := code, exceptionTable := #[], attributes := #[] }
def k1m1 : Method := { name := "law", desc := "(II)Z", sig := { parameters := [.int, .int], returnType := some .boolean }, accessFlags := 9, code := some k1c1 }
/-- com/example/decompose/decompose/model/analysis/HierarchyPlanExistencePinLaw -/
def k1 : Class := { plain "com/example/decompose/decompose/model/analysis/HierarchyPlanExistencePinLaw" (some 0) with
  accessFlags := 49
  interfaces := #[]
  cf := some (fileOf pool1 51 #[] #[{ accessFlags := 1, nameIndex := 5, descriptorIndex := 6, attributes := #[] }, { accessFlags := 9, nameIndex := 55, descriptorIndex := 56, attributes := #[] }] 49 2 #[] #[])
  fields := #[]
  methods := #[k1m0, k1m1]
  instanceTypes := #[]
  staticTypes := #[]
  resolved := Array.replicate 60 none
  statics := none }

def pool2 : Array CpInfo := pool [(1, .class_ 2), (0, u "java/lang/constant/Constable"), (0, .class_ 4), (0, u "java/lang/Object")] 6

/-- java/lang/constant/Constable -/
def k2 : Class := { plain "java/lang/constant/Constable" (some 0) with
  accessFlags := 1537
  interfaces := #[]
  cf := some (fileOf pool2 1 #[] #[] 1537 3 #[] #[])
  fields := #[]
  methods := #[]
  instanceTypes := #[]
  staticTypes := #[]
  resolved := Array.replicate 11 none
  statics := none }

def pool3 : Array CpInfo := pool [(1, .class_ 2), (0, u "java/lang/Comparable"), (0, .class_ 4), (0, u "java/lang/Object")] 7

/-- java/lang/Comparable -/
def k3 : Class := { plain "java/lang/Comparable" (some 0) with
  accessFlags := 1537
  interfaces := #[]
  cf := some (fileOf pool3 1 #[] #[] 1537 3 #[] #[])
  fields := #[]
  methods := #[]
  instanceTypes := #[]
  staticTypes := #[]
  resolved := Array.replicate 12 none
  statics := none }

def pool4 : Array CpInfo := pool [(1, .class_ 2), (0, u "java/io/Serializable"), (0, .class_ 4), (0, u "java/lang/Object")] 2

/-- java/io/Serializable -/
def k4 : Class := { plain "java/io/Serializable" (some 0) with
  accessFlags := 1537
  interfaces := #[]
  cf := some (fileOf pool4 1 #[] #[] 1537 3 #[] #[])
  fields := #[]
  methods := #[]
  instanceTypes := #[]
  staticTypes := #[]
  resolved := Array.replicate 7 none
  statics := none }

def pool5 : Array CpInfo := pool [(2, .class_ 4), (1, u "java/lang/Enum"), (0, u "name"), (0, u "Ljava/lang/String;"), (2, u "ordinal"), (0, u "I"), (1, .class_ 14), (1, u "java/lang/Object"), (4, u "hash"), (86, .class_ 108), (1, u "java/lang/Enum$EnumDesc"), (2, .class_ 112), (0, u "java/lang/constant/Constable"), (0, .class_ 114), (0, u "java/lang/Comparable"), (0, .class_ 116), (0, u "java/io/Serializable")] 87

/-- java/lang/Enum -/
def k5 : Class := { plain "java/lang/Enum" (some 0) with
  accessFlags := 1057
  interfaces := #[2, 3, 4]
  cf := some (fileOf pool5 2 #[.nestMembers #[106]] #[] 1057 12 #[111, 113, 115] #[{ accessFlags := 18, nameIndex := 5, descriptorIndex := 6, attributes := #[] }, { accessFlags := 18, nameIndex := 9, descriptorIndex := 10, attributes := #[] }, { accessFlags := 2, nameIndex := 19, descriptorIndex := 10, attributes := #[] }])
  fields := #[{ name := "name", type := (.object "java/lang/String"), accessFlags := 18, slot := 0, constantValue := 0 }, { name := "ordinal", type := .int, accessFlags := 18, slot := 1, constantValue := 0 }, { name := "hash", type := .int, accessFlags := 2, slot := 2, constantValue := 0 }]
  methods := #[]
  instanceTypes := #[(.object "java/lang/String"), .int, .int]
  staticTypes := #[]
  resolved := Array.replicate 204 none
  statics := none }

def pool6 : Array CpInfo := pool [(1, .class_ 2), (0, u "com/example/decompose/decompose/model/analysis/Hierarchy"), (2, u "NONE"), (0, u "Lcom/example/decompose/decompose/model/analysis/Hierarchy;"), (2, u "ACYCLIC"), (2, u "REGULAR"), (2, u "TAIL_RECURSIVE"), (2, u "ARBITRARY"), (2, u "$VALUES"), (0, u "[Lcom/example/decompose/decompose/model/analysis/Hierarchy;"), (6, .class_ 31), (1, u "java/lang/Enum"), (6, .fieldref 1 39), (0, .nameAndType 40 41), (0, u "totallyOrdered"), (0, u "Lcom/example/decompose/decompose/model/analysis/Complexity;"), (0, .fieldref 1 43), (0, .nameAndType 44 41), (0, u "partiallyOrdered"), (39, u "planExistence"), (0, u "(Z)Lcom/example/decompose/decompose/model/analysis/Complexity;")] 6

def k6c0 : Code := { maxStack := 1, maxLocals := 2, code := prog_50_method_4_code, exceptionTable := #[], attributes := #[] }
def k6m0 : Method := { name := "planExistence", desc := "(Z)Lcom/example/decompose/decompose/model/analysis/Complexity;", sig := { parameters := [.boolean], returnType := some (.object "com/example/decompose/decompose/model/analysis/Complexity") }, accessFlags := 1, code := some k6c0 }
/-- com/example/decompose/decompose/model/analysis/Hierarchy -/
def k6 : Class := { plain "com/example/decompose/decompose/model/analysis/Hierarchy" (some 5) with
  accessFlags := 16433
  interfaces := #[]
  cf := some (fileOf pool6 1 #[] #[{ accessFlags := 1, nameIndex := 84, descriptorIndex := 85, attributes := #[] }] 16433 29 #[] #[{ accessFlags := 16409, nameIndex := 5, descriptorIndex := 6, attributes := #[] }, { accessFlags := 16409, nameIndex := 9, descriptorIndex := 6, attributes := #[] }, { accessFlags := 16409, nameIndex := 12, descriptorIndex := 6, attributes := #[] }, { accessFlags := 16409, nameIndex := 15, descriptorIndex := 6, attributes := #[] }, { accessFlags := 16409, nameIndex := 18, descriptorIndex := 6, attributes := #[] }, { accessFlags := 18, nameIndex := 40, descriptorIndex := 41, attributes := #[] }, { accessFlags := 18, nameIndex := 44, descriptorIndex := 41, attributes := #[] }, { accessFlags := 4122, nameIndex := 21, descriptorIndex := 22, attributes := #[] }])
  fields := #[{ name := "NONE", type := (.object "com/example/decompose/decompose/model/analysis/Hierarchy"), accessFlags := 16409, slot := 0, constantValue := 0 }, { name := "ACYCLIC", type := (.object "com/example/decompose/decompose/model/analysis/Hierarchy"), accessFlags := 16409, slot := 1, constantValue := 0 }, { name := "REGULAR", type := (.object "com/example/decompose/decompose/model/analysis/Hierarchy"), accessFlags := 16409, slot := 2, constantValue := 0 }, { name := "TAIL_RECURSIVE", type := (.object "com/example/decompose/decompose/model/analysis/Hierarchy"), accessFlags := 16409, slot := 3, constantValue := 0 }, { name := "ARBITRARY", type := (.object "com/example/decompose/decompose/model/analysis/Hierarchy"), accessFlags := 16409, slot := 4, constantValue := 0 }, { name := "totallyOrdered", type := (.object "com/example/decompose/decompose/model/analysis/Complexity"), accessFlags := 18, slot := 3, constantValue := 0 }, { name := "partiallyOrdered", type := (.object "com/example/decompose/decompose/model/analysis/Complexity"), accessFlags := 18, slot := 4, constantValue := 0 }, { name := "$VALUES", type := (.array (.object "com/example/decompose/decompose/model/analysis/Hierarchy")), accessFlags := 4122, slot := 5, constantValue := 0 }]
  methods := #[k6m0]
  instanceTypes := #[(.object "java/lang/String"), .int, .int, (.object "com/example/decompose/decompose/model/analysis/Complexity"), (.object "com/example/decompose/decompose/model/analysis/Complexity")]
  staticTypes := #[(.object "com/example/decompose/decompose/model/analysis/Hierarchy"), (.object "com/example/decompose/decompose/model/analysis/Hierarchy"), (.object "com/example/decompose/decompose/model/analysis/Hierarchy"), (.object "com/example/decompose/decompose/model/analysis/Hierarchy"), (.object "com/example/decompose/decompose/model/analysis/Hierarchy"), (.array (.object "com/example/decompose/decompose/model/analysis/Hierarchy"))]
  resolved := Array.replicate 92 none
  statics := some 0 }

def pool7 : Array CpInfo := pool [(1, .class_ 2), (0, u "com/example/decompose/decompose/model/analysis/Complexity"), (2, u "IN_P"), (0, u "Lcom/example/decompose/decompose/model/analysis/Complexity;"), (2, u "NP"), (2, u "PSPACE"), (2, u "EXPTIME"), (2, u "NEXPTIME"), (2, u "UNDECIDABLE"), (2, u "$VALUES"), (0, u "[Lcom/example/decompose/decompose/model/analysis/Complexity;"), (6, .class_ 34), (1, u "java/lang/Enum"), (8, u "label"), (0, u "Ljava/lang/String;")] 30

/-- com/example/decompose/decompose/model/analysis/Complexity -/
def k7 : Class := { plain "com/example/decompose/decompose/model/analysis/Complexity" (some 5) with
  accessFlags := 16433
  interfaces := #[]
  cf := some (fileOf pool7 1 #[] #[] 16433 32 #[] #[{ accessFlags := 16409, nameIndex := 5, descriptorIndex := 6, attributes := #[] }, { accessFlags := 16409, nameIndex := 9, descriptorIndex := 6, attributes := #[] }, { accessFlags := 16409, nameIndex := 12, descriptorIndex := 6, attributes := #[] }, { accessFlags := 16409, nameIndex := 15, descriptorIndex := 6, attributes := #[] }, { accessFlags := 16409, nameIndex := 18, descriptorIndex := 6, attributes := #[] }, { accessFlags := 16409, nameIndex := 21, descriptorIndex := 6, attributes := #[] }, { accessFlags := 18, nameIndex := 43, descriptorIndex := 44, attributes := #[] }, { accessFlags := 4122, nameIndex := 24, descriptorIndex := 25, attributes := #[] }])
  fields := #[{ name := "IN_P", type := (.object "com/example/decompose/decompose/model/analysis/Complexity"), accessFlags := 16409, slot := 0, constantValue := 0 }, { name := "NP", type := (.object "com/example/decompose/decompose/model/analysis/Complexity"), accessFlags := 16409, slot := 1, constantValue := 0 }, { name := "PSPACE", type := (.object "com/example/decompose/decompose/model/analysis/Complexity"), accessFlags := 16409, slot := 2, constantValue := 0 }, { name := "EXPTIME", type := (.object "com/example/decompose/decompose/model/analysis/Complexity"), accessFlags := 16409, slot := 3, constantValue := 0 }, { name := "NEXPTIME", type := (.object "com/example/decompose/decompose/model/analysis/Complexity"), accessFlags := 16409, slot := 4, constantValue := 0 }, { name := "UNDECIDABLE", type := (.object "com/example/decompose/decompose/model/analysis/Complexity"), accessFlags := 16409, slot := 5, constantValue := 0 }, { name := "label", type := (.object "java/lang/String"), accessFlags := 18, slot := 3, constantValue := 0 }, { name := "$VALUES", type := (.array (.object "com/example/decompose/decompose/model/analysis/Complexity")), accessFlags := 4122, slot := 6, constantValue := 0 }]
  methods := #[]
  instanceTypes := #[(.object "java/lang/String"), .int, .int, (.object "java/lang/String")]
  staticTypes := #[(.object "com/example/decompose/decompose/model/analysis/Complexity"), (.object "com/example/decompose/decompose/model/analysis/Complexity"), (.object "com/example/decompose/decompose/model/analysis/Complexity"), (.object "com/example/decompose/decompose/model/analysis/Complexity"), (.object "com/example/decompose/decompose/model/analysis/Complexity"), (.object "com/example/decompose/decompose/model/analysis/Complexity"), (.array (.object "com/example/decompose/decompose/model/analysis/Complexity"))]
  resolved := Array.replicate 75 none
  statics := some 1 }

def pool8 : Array CpInfo := pool [(1, u "java/lang/Cloneable"), (0, .class_ 1), (0, u "java/lang/Object"), (0, .class_ 3)] 3

/-- java/lang/Cloneable -/
def k8 : Class := { plain "java/lang/Cloneable" (some 0) with
  accessFlags := 1537
  interfaces := #[]
  cf := some (fileOf pool8 2 #[] #[] 1537 4 #[] #[])
  fields := #[]
  methods := #[]
  instanceTypes := #[]
  staticTypes := #[]
  resolved := Array.replicate 8 none
  statics := none }

/-- the primitive byte -/
def k9 : Class := { plain "byte" none with kind := .primitive 'B', accessFlags := 0x411 }
/-- [B -/
def k10 : Class := { plain "[B" (some 0) with kind := .array 9 .byte, interfaces := #[8, 4], accessFlags := 1041 }

def heap : Heap := #[{ cls := 6, slots := #[.ref 8, .ref 9, .ref 10, .ref 11, .ref 12, .null], vm := .statics 6 },
  { cls := 7, slots := #[.ref 2, .ref 3, .ref 4, .ref 6, .ref 5, .ref 7, .null], vm := .statics 7 },
  { cls := 7, slots := #[.null, .int 0, .int 0, .null], vm := .none },
  { cls := 7, slots := #[.null, .int 1, .int 0, .null], vm := .none },
  { cls := 7, slots := #[.null, .int 2, .int 0, .null], vm := .none },
  { cls := 7, slots := #[.null, .int 3, .int 0, .null], vm := .none },
  { cls := 7, slots := #[.null, .int 4, .int 0, .null], vm := .none },
  { cls := 7, slots := #[.null, .int 5, .int 0, .null], vm := .none },
  { cls := 6, slots := #[.null, .int 0, .int 0, .ref 2, .ref 3], vm := .none },
  { cls := 6, slots := #[.null, .int 1, .int 0, .ref 4, .ref 5], vm := .none },
  { cls := 6, slots := #[.null, .int 2, .int 0, .ref 4, .ref 4], vm := .none },
  { cls := 6, slots := #[.null, .int 3, .int 0, .ref 4, .ref 6], vm := .none },
  { cls := 6, slots := #[.null, .int 4, .int 0, .ref 6, .ref 7], vm := .none }]
def classes : Array Class := #[k0, k1, k2, k3, k4, k5, k6, k7, k8, k9, k10]
def interned : List (Array UInt16 × Addr) := []
def slotsUsed : Nat := 62
def theMethod : MethodId := ⟨1, 1⟩
def args0 : Array Value := #[.int 3, .int 1]
def aboutOver (below : List Frame) : State where
  vm := { classes := classes, interned := interned.toArray }
  heap := heap
  slotsUsed := slotsUsed
  threads := #[{ frames := .invoking theMethod args0 :: below }]
def below0 : List Frame := [.native { method := ⟨0, 0⟩, args := #[] }]
def about1 : State := aboutOver below0
def p0 : Program := .bare "" "" ""
def e0 : Env := launch0.env 0 0 0
theorem w_frames : about1.frames = Frame.invoking theMethod args0 :: below0 := rfl
set_option maxRecDepth 65536 in
theorem w_args : argsFit about1.vm theMethod args0 = true := by decide +kernel
set_option maxRecDepth 65536 in
theorem w_heap : heapFits about1 = true := by decide +kernel
set_option maxRecDepth 65536 in
theorem w_runnable : about1.curStatus? = some .runnable := by decide +kernel
set_option maxRecDepth 65536 in
theorem w_alone : about1.alone = true := by decide +kernel
set_option maxRecDepth 65536 in
theorem w_named : about1.methodNamed? x = some theMethod := by decide +kernel
set_option maxRecDepth 65536 in
theorem w_hears : about1.hears theMethod below0 = true := by decide +kernel
set_option maxRecDepth 65536 in
theorem w_ripe : about1.ripe theMethod args0 below0 = true := by decide +kernel
theorem w_running : about1.status = .running := rfl
set_option maxRecDepth 65536 in
theorem w_room : about1.hasRoom e0.platform room_1 = true :=
  launch0.hasRoom_least _ room_1 (by decide +kernel) (by decide +kernel) (by decide +kernel) (by decide +kernel) (by decide +kernel) (by decide +kernel)
theorem allAtoms_all (ts : List Jvm.Cond) (a : Array Jvm.Value) (st : Jvm.State) : (allAtoms ts).before a st = ts.all (fun c => c.before a st) := by
  induction ts with
  | nil => rfl
  | cons c t ih =>
    show (Jvm.Cond.and c (allAtoms t)).before a st = _
    rw [Jvm.Cond.before_and, ih, List.all_cons]
def words1 : List Jvm.Cond := Jvm.Cond.code x code maxLocals ret :: tables_1
/-- a 'code' word, met by the world's own term for the bytes: nothing is compared byte by byte -/
theorem code_word {y : MethodName} {bytes : ByteArray} {mx : Nat} {rt : Option FieldType} {a : Array Value} {s : State} {m : MethodId} {meth : Method} {c : Code} (h1 : s.methodNamed? y = some m) (h2 : s.vm.method? m = some meth) (h3 : meth.code = some c) (h4 : c.code = bytes)
    (h5 : (c.maxLocals == mx && c.exceptionTable.isEmpty && decide (c.maxStack ≤ mostOperands) && decide (meth.sig.returnType = rt) && !meth.locks && decide (parseMethodDescriptor y.desc = some meth.sig)) = true) : (Jvm.Cond.code y bytes mx rt).before a s = true := by
  simp only [Bool.and_eq_true, beq_iff_eq, Bool.not_eq_true', decide_eq_true_eq] at h5
  obtain ⟨⟨⟨⟨⟨g1, g2⟩, g3⟩, g4⟩, g5⟩, g6⟩ := h5
  simp [Cond.before, Cond.holds, Cond.value, h1, h2, h3, h4, g1, g2, g3, g4, g5, g6]
def isCode : Jvm.Cond → Bool
  | .code _ _ _ _ => true
  | _ => false
theorem all_split {L : List Jvm.Cond} {P : Jvm.Cond → Bool} (h1 : L.all (fun c => isCode c || P c) = true) (h2 : ∀ c ∈ L.filter isCode, P c = true) : L.all P = true := by
  refine List.all_eq_true.mpr fun c hc => ?_
  have h := List.all_eq_true.mp h1 c hc
  rcases Bool.eq_false_or_eq_true (isCode c) with hi | hi
  · exact h2 c (List.mem_filter.mpr ⟨hc, hi⟩)
  · simpa [hi] using h
set_option maxRecDepth 65536 in
theorem w_c0 : (Jvm.Cond.code x code maxLocals ret).before args0 about1 = true := code_word (m := ⟨1, 1⟩) (meth := k1m1) (c := k1c1) (by decide +kernel) rfl rfl rfl (by decide +kernel)
set_option maxRecDepth 65536 in
theorem w_c1 : (Jvm.Cond.code ({ cls := "com/example/decompose/decompose/model/analysis/Hierarchy", name := "planExistence", desc := "(Z)Lcom/example/decompose/decompose/model/analysis/Complexity;" } : Jvm.MethodName) prog_50_method_4_code (2 : Nat) (Option.some (Jvm.ClassFile.FieldType.object "com/example/decompose/decompose/model/analysis/Complexity"))).before args0 about1 = true := code_word (m := ⟨6, 0⟩) (meth := k6m0) (c := k6c0) (by decide +kernel) rfl rfl rfl (by decide +kernel)
def codes1 : List Jvm.Cond := [Jvm.Cond.code x code maxLocals ret, Jvm.Cond.code ({ cls := "com/example/decompose/decompose/model/analysis/Hierarchy", name := "planExistence", desc := "(Z)Lcom/example/decompose/decompose/model/analysis/Complexity;" } : Jvm.MethodName) prog_50_method_4_code (2 : Nat) (Option.some (Jvm.ClassFile.FieldType.object "com/example/decompose/decompose/model/analysis/Complexity"))]
set_option maxRecDepth 65536 in
theorem codes_eq : words1.filter isCode = codes1 := rfl
theorem w_codes : ∀ c ∈ words1.filter isCode, c.before args0 about1 = true := by
  rw [codes_eq]
  intro c hc
  simp only [codes1, List.mem_cons, List.not_mem_nil, or_false] at hc
  rcases hc with rfl | rfl
  · exact w_c0
  · exact w_c1
set_option maxRecDepth 65536 in
theorem w_t1 : (words1.take 24).all (fun c => isCode c || c.before args0 about1) = true := by decide +kernel
set_option maxRecDepth 65536 in
theorem w_t2 : (words1.drop 24).all (fun c => isCode c || c.before args0 about1) = true := by decide +kernel
theorem w_tables : (allAtoms (Jvm.Cond.code x code maxLocals ret :: tables_1)).before args0 about1 = true := by
  rw [allAtoms_all]
  show words1.all (fun c => c.before args0 about1) = true
  refine all_split ?_ w_codes
  rw [← List.take_append_drop 24 words1, List.all_append, w_t1, w_t2]
  rfl
set_option maxRecDepth 65536 in
theorem w_case : (Jvm.Cond.and given_1 narrow_1).before args0 about1 = true := by decide +kernel
theorem w_applies : (headSpec (Jvm.Cond.code x code maxLocals ret :: tables_1) room_1).applies x e0.platform about1 = true :=
  (Spec.applies_iff w_frames).mpr ⟨w_running, w_runnable, w_alone, w_named, w_hears, w_ripe, w_room, w_tables⟩
theorem atStart : AtStart classFile x code maxLocals ret World_1 tables_1 room_1 Calls_1 rest_1 Pre_1 launch0 p0 e0 about1 theMethod args0 below0 :=
  ⟨lists_1, trivial, launch0.admits_env _ _ _, launch0.least_env, fairChoices_fair.cas, fairChoices_fair.clock, w_frames, w_args, w_heap, w_applies, trivial, trivial, w_case⟩
end start1
theorem witness_1 : WitnessClaimed_1 := ⟨start1.p0, start1.e0, start1.about1, start1.theMethod, start1.args0, start1.below0, start1.atStart⟩
end Jvm.Pilot.@@N@@
