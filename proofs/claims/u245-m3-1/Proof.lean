import JvmDerived
import JvmDerived.Pilot.@@N@@Statement
import JvmDerived.Pilot.@@N@@Code
set_option linter.unusedVariables false
set_option linter.unusedSimpArgs false
namespace Jvm.RoadKit
open Sem ClassFile Op Lib Jvm.Stand Jvm.Free Jvm.LawKit
section Own
variable {p : Program} {l : Launch} {e : Env} {R : Room} {s : State} {m : MethodId} {args : Array Value} {below : List Frame} {meth : Method} {c : Code} {T : State} {locs : List Loc} {cells slots : Nat} {Z : State} {a0 : Array Value} {h : Heap}
/-- what is left of a body: from the frame g on it ends, and Q holds of what it returns, the heap and the places written -/
def Goes (p : Program) (e : Env) (below : List Frame) (s : State) (K N : Nat) (Q : Option Value → Heap → List Loc → Prop) (T : State) (g : JFrame) : Prop :=
  ∃ s₂ o, Steps p.tables e below (T.setTop g) s₂ ∧ s₂.status = .running ∧ Ended s₂ below o ∧ ∃ v L, o = .returned v ∧ Q v s₂.heap L ∧ FrameEnd s o s₂ L K N
theorem Goes.step {K N : Nat} {Q : Option Value → Heap → List Loc → Prop} {T' : State} {g g' : JFrame} (k : ∀ t, Steps p.tables e below (T'.setTop g') t → Steps p.tables e below (T.setTop g) t) (h : Goes p e below s K N Q T' g') : Goes p e below s K N Q T g := by
  obtain ⟨s₂, o, h1, h2⟩ := h
  exact ⟨s₂, o, k _ h1, h2⟩
theorem Goes.jump {K N : Nat} {Q : Option Value → Heap → List Loc → Prop} {T' : State} {g g' : JFrame} (k : Steps p.tables e below (T.setTop g) (T'.setTop g')) (h : Goes p e below s K N Q T' g') : Goes p e below s K N Q T g :=
  Goes.step (fun _ q => k.trans q) h
theorem Goes.ite {K N : Nat} {α : Type} {Q : α → Option Value → Heap → List Loc → Prop} {g : JFrame} {a b : α} {d : Prop} [Decidable d] (h1 : d → Goes p e below s K N (Q a) T g) (h2 : ¬ d → Goes p e below s K N (Q b) T g) : Goes p e below s K N (Q (if d then a else b)) T g := by
  split
  · next q => exact h1 q
  · next q => exact h2 q
theorem Goes.imp {K N : Nat} {Q Q' : Option Value → Heap → List Loc → Prop} {g : JFrame} (q : ∀ v h L, Q v h L → Q' v h L) (h : Goes p e below s K N Q T g) : Goes p e below s K N Q' T g := by
  obtain ⟨s₂, o, h1, h2, h3, v, L, h4, h5, h6⟩ := h
  exact ⟨s₂, o, h1, h2, h3, v, L, h4, q _ _ _ h5, h6⟩
theorem retI (X : Stand p l e R s m args below meth c T locs cells slots) (hx : p.tables.exec = Jvm.exec) {pc : Nat} {Ls : Array Slot} {z : Int32} {rest : List Value} (hret : meth.sig.returnType = some .int) (hd : decode c.code pc = .ok (.ireturn, 1)) {fs : List Frame}
    (hl : ∀ (f : JFrame) (acts : List Action), f.method = m → f.locked = none → f.entered = [] → (doReturn e (T.setTop f) acts (some (.int z))).1 = T.setFrames fs) : Steps p.tables e below (T.setTop (mkF m pc Ls (.int z :: rest))) (T.setFrames fs) := by
  have hm' : T.vm.method? m = some meth := X.method'
  have hn : narrow .int (.int z) = .int z := rfl
  show Steps p.tables e below (T.setTop { method := m, pc := pc, locals := Ls, stack := _ :: rest, locked := none }) _
  jvm_step X.here [X.here.top, hx, hd, hm', hret, hn]
  first | (intro acts; rw [hl _ acts rfl rfl rfl]) | rw [hl _ _ rfl rfl rfl]
  exact Steps.refl _
theorem retJ (X : Stand p l e R s m args below meth c T locs cells slots) (hx : p.tables.exec = Jvm.exec) {pc : Nat} {Ls : Array Slot} {z : Int64} {rest : List Value} (hret : meth.sig.returnType = some .long) (hd : decode c.code pc = .ok (.lreturn, 1)) {fs : List Frame}
    (hl : ∀ (f : JFrame) (acts : List Action), f.method = m → f.locked = none → f.entered = [] → (doReturn e (T.setTop f) acts (some (.long z))).1 = T.setFrames fs) : Steps p.tables e below (T.setTop (mkF m pc Ls (.long z :: rest))) (T.setFrames fs) :=
  retOut X hx hret rfl (Or.inr (Or.inl ⟨rfl, rfl, z, rfl⟩)) hd hl
theorem Goes.outI (X : Stand p l e R s m args below meth c T locs cells slots) (hx : p.tables.exec = Jvm.exec) (hlk : meth.locks = false) (hret : meth.sig.returnType = some .int) {pc : Nat} (hd : decode c.code pc = .ok (.ireturn, 1)) {Ls : Array Slot} {z : Int32} {rest : List Value} {K N : Nat} {Q : Option Value → Heap → List Loc → Prop}
    (hq : Q (some (.int z)) T.heap locs) (hk : cells ≤ K) (hn : slots ≤ N) : Goes p e below s K N Q T (mkF m pc Ls (.int z :: rest)) := by
  obtain ⟨fs, hr, hrun, hended, hW, hsame⟩ := X.leave (v := some (.int z)) (fun h => by rw [hret] at h; cases h) hlk
  exact ⟨_, _, retI X hx hret hd hr, hrun, hended, _, _, rfl, hq, ⟨_, rfl⟩, hW, hsame.mono hk hn⟩
theorem Goes.outJ (X : Stand p l e R s m args below meth c T locs cells slots) (hx : p.tables.exec = Jvm.exec) (hlk : meth.locks = false) (hret : meth.sig.returnType = some .long) {pc : Nat} (hd : decode c.code pc = .ok (.lreturn, 1)) {Ls : Array Slot} {z : Int64} {rest : List Value} {K N : Nat} {Q : Option Value → Heap → List Loc → Prop}
    (hq : Q (some (.long z)) T.heap locs) (hk : cells ≤ K) (hn : slots ≤ N) : Goes p e below s K N Q T (mkF m pc Ls (.long z :: rest)) := by
  obtain ⟨fs, hr, hrun, hended, hW, hsame⟩ := X.leave (v := some (.long z)) (fun h => by rw [hret] at h; cases h) hlk
  exact ⟨_, _, retJ X hx hret hd hr, hrun, hended, _, _, rfl, hq, ⟨_, rfl⟩, hW, hsame.mono hk hn⟩
theorem Goes.outN (X : Stand p l e R s m args below meth c T locs cells slots) (hx : p.tables.exec = Jvm.exec) (hlk : meth.locks = false) {t : FieldType} (hret : meth.sig.returnType = some t) (ht : t = .boolean ∨ t = .byte ∨ t = .char ∨ t = .short) {pc : Nat} (hd : decode c.code pc = .ok (.ireturn, 1)) {Ls : Array Slot} {z : Int32} {rest : List Value} {K N : Nat} {Q : Option Value → Heap → List Loc → Prop}
    (hq : Q (some (.int (nar t z))) T.heap locs) (hk : cells ≤ K) (hn : slots ≤ N) : Goes p e below s K N Q T (mkF m pc Ls (.int z :: rest)) := by
  obtain ⟨fs, hr, hrun, hended, hW, hsame⟩ := X.leave (v := some (.int (nar t z))) (fun h => by rw [hret] at h; cases h) hlk
  exact ⟨_, _, retN X hx hret ht hd hr, hrun, hended, _, _, rfl, hq, ⟨_, rfl⟩, hW, hsame.mono hk hn⟩
theorem Goes.outV (X : Stand p l e R s m args below meth c T locs cells slots) (hx : p.tables.exec = Jvm.exec) (hlk : meth.locks = false) (hret : meth.sig.returnType = none) {pc : Nat} (hd : decode c.code pc = .ok (.return_, 1)) {Ls : Array Slot} {K N : Nat} {Q : Option Value → Heap → List Loc → Prop}
    (hq : Q none T.heap locs) (hk : cells ≤ K) (hn : slots ≤ N) : Goes p e below s K N Q T (mkF m pc Ls []) := by
  obtain ⟨fs, hr, hrun, hended, hW, hsame⟩ := X.leave (v := none) (fun _ => rfl) hlk
  exact ⟨_, _, X.returnOut hx hret hd hr, hrun, hended, _, _, rfl, hq, ⟨_, rfl⟩, hW, hsame.mono hk hn⟩
theorem Goes.outR (X : Stand p l e R s m args below meth c T locs cells slots) (hx : p.tables.exec = Jvm.exec) (hlk : meth.locks = false) {t : FieldType} (hret : meth.sig.returnType = some t) (ht : t.isReference = true) {w : Value} (hw : w.isRef = true) {pc : Nat} (hd : decode c.code pc = .ok (.areturn, 1)) {Ls : Array Slot} {K N : Nat} {Q : Option Value → Heap → List Loc → Prop}
    (hq : Q (some w) T.heap locs) (hk : cells ≤ K) (hn : slots ≤ N) : Goes p e below s K N Q T (mkF m pc Ls [w]) := by
  obtain ⟨fs, hr, hrun, hended, hW, hsame⟩ := X.leave (v := some w) (fun h => by rw [hret] at h; cases h) hlk
  exact ⟨_, _, X.areturnOut hx hw hret ht hd hr, hrun, hended, _, _, rfl, hq, ⟨_, rfl⟩, hW, hsame.mono hk hn⟩
/-- a body that returns v and leaves the heap as it was -/
def PV (h0 : Heap) (r : Value) (v : Option Value) (h : Heap) (L : List Loc) : Prop := v = some r ∧ L = [] ∧ h = h0
def PI (h0 : Heap) (r : Int32) (v : Option Value) (h : Heap) (L : List Loc) : Prop := PV h0 (.int r) v h L
def PJ (h0 : Heap) (r : Int64) (v : Option Value) (h : Heap) (L : List Loc) : Prop := PV h0 (.long r) v h L
def PA (h0 : Heap) (r : Addr) (v : Option Value) (h : Heap) (L : List Loc) : Prop := PV h0 (.ref r) v h L
/-- a reference that may be null -/
def ov : Option Addr → Value
  | none => .null
  | some b => .ref b
def PO (h0 : Heap) (r : Option Addr) (v : Option Value) (h : Heap) (L : List Loc) : Prop := PV h0 (ov r) v h L
theorem ov_cat (o : Option Addr) : (ov o).category = 1 := by cases o <;> rfl
theorem ov_inj {a b : Option Addr} : (ov a = ov b) = (a = b) := by cases a <;> cases b <;> simp [ov]
theorem ov_ref (o : Option Addr) : (ov o).isRef = true := by cases o <;> rfl
/-- a virtual call of a body that leaves the heap as it was -/
theorem callPureV (X : Stand p l e R s m args below meth c T locs cells slots) (hx : p.tables.exec = Jvm.exec) (hZ : Z.Warmed39 s.vm) {own C : String} {index : Nat} {y z : MethodName} {bytes : ByteArray} {maxL : Nat} {ret : Option FieldType} (hown : s.vm.findClass own = some m.cls)
    (w1 : (Cond.methodLink own index y).before a0 Z = true) (w2 : (Cond.declares y).before a0 Z = true) (w3 : (Cond.selects C y z).before a0 Z = true) (w4 : (Cond.instanceMethod z).before a0 Z = true) (w5 : (Cond.code z bytes maxL ret).before a0 Z = true) (w6 : (Cond.initialized z.cls).before a0 Z = true) (hnf : NotFace s y) (hy : y.cls ≠ "java/lang/invoke/MethodHandle" ∧ y.cls ≠ "java/lang/invoke/VarHandle")
    {F W0 W : Nat} {b : Addr} {argsL rest : List Value} {r : Value} {Q : Option Value → Heap → List Loc → Prop} (hQ : ∀ v h' L, Q v h' L → PV h r v h' L)
    (hM : MetFree l z (head1 [Cond.code z bytes maxL ret] ({ frames := F, cells := 0, slots := 0, locals := W0 } : Room)) (fun a U => a = (.ref b :: argsL).toArray ∧ Z.Warmed39 U.vm ∧ U.heap = h) (fun _ _ _ _ _ => True) (fun _ U o U' => ∃ v L, o = .returned v ∧ Q v U'.heap L ∧ FrameEnd U o U' L ({ frames := F, cells := 0, slots := 0, locals := W0 } : Room).cells ({ frames := F, cells := 0, slots := 0, locals := W0 } : Room).slots))
    (hf : F + 1 ≤ R.frames) (hl : W + (maxL + 11) + W0 ≤ R.locals) (hc : cells ≤ R.cells) (hs : slots ≤ R.slots) (eT : T.heap = h) (E : Exa Z h b C) {g : JFrame} (hg : g.method = m) (hsize : g.locals.size = c.maxLocals) (hlen : ∀ sig, parseMethodDescriptor y.desc = some sig → argsL.length = sig.parameters.length)
    (hstack : g.stack = argsL.reverse ++ .ref b :: rest) (hW : 2 * g.monitorRoom + (rest.map fun v => v.category).sum ≤ W) (hd : decode c.code g.pc = .ok (.invokevirtual index, 3)) :
    ∃ T', Stand p l e R s m args below meth c T' locs cells slots ∧ T'.heap = h ∧ ∀ target, Steps p.tables e below (T'.setTop { g with pc := g.pc + 3, stack := r :: rest }) target → Steps p.tables e below (T.setTop g) target := by
  obtain ⟨cq, kq, qa, qb, qc⟩ := isOf hZ eT E
  obtain ⟨_, _, ⟨T18, L18, k18, n18⟩, -, X18, ⟨Lc, hq, l18, y18, z18⟩, st⟩ := X.virtualBack hx hown (mvT hZ w1) (mvT hZ w2) hnf (mvT hZ w3) (mvT hZ w4) hy (backOf (W := W) hM hZ w5 w6 hf hl) qa qc hg hsize (Steps.refl _) hlen hstack hW hd (fun _ _ => ⟨rfl, eT, hc, hs⟩)
  dsimp only [Pt.U, Pt.locs, Pt.cells, Pt.slots] at X18 l18 y18 z18 st hq
  subst l18 y18 z18
  obtain ⟨rfl, rfl, e18⟩ := hQ _ _ _ hq
  rw [List.append_nil] at X18
  exact ⟨T18, X18, e18, fun _ k => st.trans k⟩
/-- a static call of a body that leaves the heap as it was -/
theorem callPure (X : Stand p l e R s m args below meth c T locs cells slots) (hx : p.tables.exec = Jvm.exec) (hZ : Z.Warmed39 s.vm) {own : String} {index : Nat} {y : MethodName} {bytes : ByteArray} {maxL : Nat} {ret : Option FieldType} (hown : s.vm.findClass own = some m.cls)
    (w1 : (Cond.methodLink own index y).before a0 Z = true) (w2 : (Cond.static y).before a0 Z = true) (w3 : (Cond.initialized y.cls).before a0 Z = true) (w4 : (Cond.code y bytes maxL ret).before a0 Z = true) (hy : y.cls ≠ "java/lang/invoke/MethodHandle" ∧ y.cls ≠ "java/lang/invoke/VarHandle")
    {F W0 W : Nat} {argsL rest : List Value} {r : Value} {Q : Option Value → Heap → List Loc → Prop} (hQ : ∀ v h' L, Q v h' L → PV h r v h' L)
    (hM : MetFree l y (head1 [Cond.code y bytes maxL ret] ({ frames := F, cells := 0, slots := 0, locals := W0 } : Room)) (fun a U => a = argsL.toArray ∧ Z.Warmed39 U.vm ∧ U.heap = h) (fun _ _ _ _ _ => True) (fun _ U o U' => ∃ v L, o = .returned v ∧ Q v U'.heap L ∧ FrameEnd U o U' L ({ frames := F, cells := 0, slots := 0, locals := W0 } : Room).cells ({ frames := F, cells := 0, slots := 0, locals := W0 } : Room).slots))
    (hf : F + 1 ≤ R.frames) (hl : W + (maxL + 11) + W0 ≤ R.locals) (hc : cells ≤ R.cells) (hs : slots ≤ R.slots) (eT : T.heap = h) {g : JFrame} (hg : g.method = m) (hsize : g.locals.size = c.maxLocals) (hlen : ∀ sig, parseMethodDescriptor y.desc = some sig → argsL.length = sig.parameters.length)
    (hstack : g.stack = argsL.reverse ++ rest) (hW : 2 * g.monitorRoom + (rest.map fun v => v.category).sum ≤ W) (hd : decode c.code g.pc = .ok (.invokestatic index, 3)) :
    ∃ T', Stand p l e R s m args below meth c T' locs cells slots ∧ T'.heap = h ∧ ∀ target, Steps p.tables e below (T'.setTop { g with pc := g.pc + 3, stack := r :: rest }) target → Steps p.tables e below (T.setTop g) target := by
  obtain ⟨_, _, ⟨T18, L18, k18, n18⟩, -, X18, ⟨Lc, hq, l18, y18, z18⟩, st⟩ := Jvm.LawKit.callS X hx hown (mvT hZ w1) (mvT hZ w2) (mvT hZ w3) (mvT hZ w4) hy (backOf (W := W) hM hZ w4 w3 hf hl) hg hsize hlen hstack hW hd (fun _ _ => ⟨rfl, eT, hc, hs⟩)
  dsimp only [Pt.U, Pt.locs, Pt.cells, Pt.slots] at X18 l18 y18 z18 st hq
  subst l18 y18 z18
  obtain ⟨rfl, rfl, e18⟩ := hQ _ _ _ hq
  rw [List.append_nil] at X18
  exact ⟨T18, X18, e18, st⟩
end Own
end Jvm.RoadKit
namespace Jvm.RoadKit
open Sem ClassFile Op Lib Jvm.Stand Jvm.Free Jvm.LawKit
theorem own_static {s : State} {args : Array Value} {C n d K : String} (h : (Cond.exactly (.static C n d) K).value args s none s [] = some true) (w1 : (Cond.initialized C).before args s = true) (w2 : (Cond.laysStatic C n d).before args s = true) :
    ∃ x, (Term.static C n d).eval args s none [] s = some (.ref x) ∧ Exa s s.heap x K ∧ Sta s s.heap C n d (.ref x) := by
  obtain ⟨x, ex⟩ := exa_v h
  exact ⟨x, ex, Exa.start ex h, Sta.start ex (Or.inr ⟨w1, w2⟩)⟩
theorem own_fieldR {s : State} {args : Array Value} {C n d : String} {t u : Term} {a b : Addr} (h : (Cond.eq (.field t C n d) u).value args s none s [] = some true) (et : t.eval args s none [] s = some (.ref a)) (eu : u.eval args s none [] s = some (.ref b)) : Fld s s.heap a C n d (.ref b) := by
  obtain ⟨x, y, hx, hy, k1, k2⟩ := cmp_v (Or.inl h)
  cases eu.symm.trans hy
  have r : x.isRef = true := by
    cases x with
    | null => rfl
    | ref z => rfl
    | _ => exact absurd k2 (by simp [Kin, Value.isRef])
  have q := gotT (eq_R hx eu r rfl) h
  subst q
  rw [fld_at et] at hx
  exact Fld.start hx
theorem own_fieldN {s : State} {args : Array Value} {C n d : String} {t : Term} {a : Addr} (h : (Cond.eq (.field t C n d) .null).value args s none s [] = some true) (et : t.eval args s none [] s = some (.ref a)) : Fld s s.heap a C n d .null := by
  have hx := null_v h
  rw [fld_at et] at hx
  exact Fld.start hx
theorem own_fieldI {s : State} {args : Array Value} {C n d : String} {t : Term} {a : Addr} {k : Int32} (h : (Cond.eq (.field t C n d) (.int k)).value args s none s [] = some true) (et : t.eval args s none [] s = some (.ref a)) : Fld s s.heap a C n d (.int k) := by
  obtain ⟨x, y, hx, hy, k1, k2⟩ := cmp_v (Or.inl h)
  cases (Term.int_eval k).symm.trans hy
  obtain ⟨z, rfl⟩ := k2
  have q := gotT (Cond.eq_ints hx (Term.int_eval k)) h
  subst q
  rw [fld_at et] at hx
  exact Fld.start hx
end Jvm.RoadKit
namespace Jvm.Pilot.@@N@@
open Jvm Jvm.ClassFile Sem Op Lib Jvm.Free Jvm.Stand Jvm.LawKit Jvm.RoadKit Bundle Jvm.Pilot.@@N@@.Jvm.D
theorem d1_0 : decode method_3_code 0 = .ok (.iload_n 0, 1) := by decide +kernel
theorem d1_1 : decode method_3_code 1 = .ok (.ifCond .ne 7, 3) := by decide +kernel
theorem d1_4 : decode method_3_code 4 = .ok (.getstatic 20, 3) := by decide +kernel
theorem d1_7 : decode method_3_code 7 = .ok (.areturn, 1) := by decide +kernel
theorem d1_8 : decode method_3_code 8 = .ok (.iload_n 0, 1) := by decide +kernel
theorem d1_9 : decode method_3_code 9 = .ok (.iconst 1, 1) := by decide +kernel
theorem d1_10 : decode method_3_code 10 = .ok (.if_icmp .ne 7, 3) := by decide +kernel
theorem d1_13 : decode method_3_code 13 = .ok (.getstatic 24, 3) := by decide +kernel
theorem d1_16 : decode method_3_code 16 = .ok (.areturn, 1) := by decide +kernel
theorem d1_17 : decode method_3_code 17 = .ok (.iload_n 0, 1) := by decide +kernel
theorem d1_18 : decode method_3_code 18 = .ok (.iconst 2, 1) := by decide +kernel
theorem d1_19 : decode method_3_code 19 = .ok (.if_icmp .ne 7, 3) := by decide +kernel
theorem d1_22 : decode method_3_code 22 = .ok (.getstatic 27, 3) := by decide +kernel
theorem d1_25 : decode method_3_code 25 = .ok (.areturn, 1) := by decide +kernel
theorem d1_26 : decode method_3_code 26 = .ok (.iload_n 0, 1) := by decide +kernel
theorem d1_27 : decode method_3_code 27 = .ok (.iconst 3, 1) := by decide +kernel
theorem d1_28 : decode method_3_code 28 = .ok (.if_icmp .ne 7, 3) := by decide +kernel
theorem d1_31 : decode method_3_code 31 = .ok (.getstatic 30, 3) := by decide +kernel
theorem d1_34 : decode method_3_code 34 = .ok (.areturn, 1) := by decide +kernel
theorem d1_35 : decode method_3_code 35 = .ok (.iload_n 0, 1) := by decide +kernel
theorem d1_36 : decode method_3_code 36 = .ok (.iconst 4, 1) := by decide +kernel
theorem d1_37 : decode method_3_code 37 = .ok (.if_icmp .ne 7, 3) := by decide +kernel
theorem d1_40 : decode method_3_code 40 = .ok (.getstatic 33, 3) := by decide +kernel
theorem d1_43 : decode method_3_code 43 = .ok (.areturn, 1) := by decide +kernel
theorem d1_44 : decode method_3_code 44 = .ok (.iload_n 0, 1) := by decide +kernel
theorem d1_45 : decode method_3_code 45 = .ok (.iconst 5, 1) := by decide +kernel
theorem d1_46 : decode method_3_code 46 = .ok (.if_icmp .ne 7, 3) := by decide +kernel
theorem d1_49 : decode method_3_code 49 = .ok (.getstatic 36, 3) := by decide +kernel
theorem d1_52 : decode method_3_code 52 = .ok (.areturn, 1) := by decide +kernel
theorem d1_53 : decode method_3_code 53 = .ok (.iload_n 0, 1) := by decide +kernel
theorem d1_54 : decode method_3_code 54 = .ok (.bipush 6, 2) := by decide +kernel
theorem d1_56 : decode method_3_code 56 = .ok (.if_icmp .ne 7, 3) := by decide +kernel
theorem d1_59 : decode method_3_code 59 = .ok (.getstatic 39, 3) := by decide +kernel
theorem d1_62 : decode method_3_code 62 = .ok (.areturn, 1) := by decide +kernel
theorem d1_63 : decode method_3_code 63 = .ok (.iload_n 0, 1) := by decide +kernel
theorem d1_64 : decode method_3_code 64 = .ok (.bipush 7, 2) := by decide +kernel
theorem d1_66 : decode method_3_code 66 = .ok (.if_icmp .ne 7, 3) := by decide +kernel
theorem d1_69 : decode method_3_code 69 = .ok (.getstatic 42, 3) := by decide +kernel
theorem d1_72 : decode method_3_code 72 = .ok (.areturn, 1) := by decide +kernel
theorem d1_73 : decode method_3_code 73 = .ok (.getstatic 45, 3) := by decide +kernel
theorem d1_76 : decode method_3_code 76 = .ok (.areturn, 1) := by decide +kernel
theorem pn_1 : plainName "com/example/recital/recital/service/StyleHasKeywordPinLaw" = true := by first | (simp [plainName, overriddenIn]; done) | decide +kernel
theorem ef_1 (m : MethodId) (p1 : Int32) : entryFrame m #[(.int p1)] 1 = mkF m 0 #[.val (.int p1)] [] := by first | (simp [entryFrame, mkF, argsToLocals, Value.category]; done) | rfl
def f1 (p1 : Int32) (aSECTION : Addr) (aARTICLE : Addr) (aDECIMAL : Addr) (aEXHIBIT : Addr) (aDIGIT : Addr) (aLOWER_LETTER : Addr) (aUPPER_LETTER : Addr) (aLOWER_ROMAN : Addr) (aUPPER_ROMAN : Addr) : Addr := (if (p1 = (0 : Int32)) then aSECTION else (if (p1 = (1 : Int32)) then aARTICLE else (if (p1 = (2 : Int32)) then aDECIMAL else (if (p1 = (3 : Int32)) then aEXHIBIT else (if (p1 = (4 : Int32)) then aDIGIT else (if (p1 = (5 : Int32)) then aLOWER_LETTER else (if (p1 = (6 : Int32)) then aUPPER_LETTER else (if (p1 = (7 : Int32)) then aLOWER_ROMAN else aUPPER_ROMAN))))))))
set_option maxRecDepth 65536 in
set_option maxHeartbeats 40000000 in
theorem rm1 (l : Launch) (Z : State) (a0 : Array Value) (hw : ∀ d ∈ tables_1, d.before a0 Z = true) (ws : List Jvm.Cond) (p1 : Int32) (aSECTION : Addr) (aARTICLE : Addr) (aDECIMAL : Addr) (aEXHIBIT : Addr) (aDIGIT : Addr) (aLOWER_LETTER : Addr) (aUPPER_LETTER : Addr) (aLOWER_ROMAN : Addr) (aUPPER_ROMAN : Addr) (h0 : Heap) (S_SECTION : Sta Z h0 "com/example/recital/recital/service/Markers$Style" "SECTION" "Lcom/example/recital/recital/service/Markers$Style;" (.ref aSECTION)) (S_ARTICLE : Sta Z h0 "com/example/recital/recital/service/Markers$Style" "ARTICLE" "Lcom/example/recital/recital/service/Markers$Style;" (.ref aARTICLE)) (S_DECIMAL : Sta Z h0 "com/example/recital/recital/service/Markers$Style" "DECIMAL" "Lcom/example/recital/recital/service/Markers$Style;" (.ref aDECIMAL)) (S_EXHIBIT : Sta Z h0 "com/example/recital/recital/service/Markers$Style" "EXHIBIT" "Lcom/example/recital/recital/service/Markers$Style;" (.ref aEXHIBIT)) (S_DIGIT : Sta Z h0 "com/example/recital/recital/service/Markers$Style" "DIGIT" "Lcom/example/recital/recital/service/Markers$Style;" (.ref aDIGIT)) (S_LOWER_LETTER : Sta Z h0 "com/example/recital/recital/service/Markers$Style" "LOWER_LETTER" "Lcom/example/recital/recital/service/Markers$Style;" (.ref aLOWER_LETTER)) (S_UPPER_LETTER : Sta Z h0 "com/example/recital/recital/service/Markers$Style" "UPPER_LETTER" "Lcom/example/recital/recital/service/Markers$Style;" (.ref aUPPER_LETTER)) (S_LOWER_ROMAN : Sta Z h0 "com/example/recital/recital/service/Markers$Style" "LOWER_ROMAN" "Lcom/example/recital/recital/service/Markers$Style;" (.ref aLOWER_ROMAN)) (S_UPPER_ROMAN : Sta Z h0 "com/example/recital/recital/service/Markers$Style" "UPPER_ROMAN" "Lcom/example/recital/recital/service/Markers$Style;" (.ref aUPPER_ROMAN)) :
    MetFree l (⟨"com/example/recital/recital/service/StyleHasKeywordPinLaw", "pick", "(I)Lcom/example/recital/recital/service/Markers$Style;"⟩ : MethodName) (head1 (Jvm.Cond.code (⟨"com/example/recital/recital/service/StyleHasKeywordPinLaw", "pick", "(I)Lcom/example/recital/recital/service/Markers$Style;"⟩ : MethodName) method_3_code 1 (some (.object "com/example/recital/recital/service/Markers$Style")) :: ws) ({ frames := 0, cells := 0, slots := 0, locals := 0 } : Room)) (fun a U => a = #[(.int p1)] ∧ Z.Warmed39 U.vm ∧ U.heap = h0) (fun _ _ _ _ _ => True) (fun _ U o U' => ∃ v L, o = .returned v ∧ PA h0 (f1 p1 aSECTION aARTICLE aDECIMAL aEXHIBIT aDIGIT aLOWER_LETTER aUPPER_LETTER aLOWER_ROMAN aUPPER_ROMAN) v U'.heap L ∧ FrameEnd U o U' L ({ frames := 0, cells := 0, slots := 0, locals := 0 } : Room).cells ({ frames := 0, cells := 0, slots := 0, locals := 0 } : Room).slots) := by
  refine MetFree.of_bodySF (plainFor_of_name pn_1) hisR ?_
  intro p e s m args below meth c s₁ Bd hml0 hP hK
  obtain ⟨rfl, hZ, hh⟩ := hP
  have hx := Bd.exec
  have hby := Bd.bytes
  have hlk := Bd.notSynchronized
  have hml : c.maxLocals = 1 := hml0
  have hown : s.vm.findClass "com/example/recital/recital/service/StyleHasKeywordPinLaw" = some m.cls := findClass_of_methodNamed Bd.named
  have X0 : Stand p l e ({ frames := 0, cells := 0, slots := 0, locals := 0 } : Room) s m #[(.int p1)] below meth c s₁ [] 0 0 := Stand.of_body Bd
  have e0 : s₁.heap = h0 := by rw [← hh, Bd.state]; rfl
  show Goes p e below s ({ frames := 0, cells := 0, slots := 0, locals := 0 } : Room).cells ({ frames := 0, cells := 0, slots := 0, locals := 0 } : Room).slots (PA h0 (f1 p1 aSECTION aARTICLE aDECIMAL aEXHIBIT aDIGIT aLOWER_LETTER aUPPER_LETTER aLOWER_ROMAN aUPPER_ROMAN)) s₁ (entryFrame m #[(.int p1)] 1)
  refine Goes.step (fun t k => castTop (ef_1 m p1) k) ?_
  refine Goes.step (fun _ k => XS.iloadN X0.here hx rfl (hb hby d1_0) rfl k) ?_
  show Goes p e below s _ _ _ s₁ (mkF m 1 #[.val (.int p1)] [(.int p1)])
  refine Goes.ite (Q := PA h0) (fun hc1 => ?_) (fun hc1 => ?_)
  · refine Goes.step (fun _ k => XS.ifNo X0.here hx rfl (hb hby d1_1) rfl ((if0 _ _).trans (teq hc1).2) k) ?_
    show Goes p e below s _ _ _ s₁ (mkF m 4 #[.val (.int p1)] [])
    obtain ⟨T1, X1, e1, st1⟩ := getS2 X0 hx hZ hown (host := "") (Or.inl (hw _ (List.mem_of_getElem? (i := 5) rfl))) Via.refl e0 S_SECTION (g := (mkF m 4 #[.val (.int p1)] [])) rfl (hb hby d1_4)
    refine Goes.step st1 ?_
    show Goes p e below s _ _ _ T1 (mkF m 7 #[.val (.int p1)] [(.ref aSECTION)])
    exact Goes.outR X1 hx hlk Bd.returns rfl rfl (hb hby d1_7) ⟨rfl, rfl, e1⟩ (by decide) (by decide)
  · refine Goes.step (fun _ k => XS.ifYes X0.here hx rfl (pc0 := 1) (pc' := 8) rfl (hb hby d1_1) rfl ((if0 _ _).trans (feq hc1).2) (by decide) (by decide) k) ?_
    show Goes p e below s _ _ _ s₁ (mkF m 8 #[.val (.int p1)] [])
    refine Goes.step (fun _ k => XS.iloadN X0.here hx rfl (hb hby d1_8) rfl k) ?_
    show Goes p e below s _ _ _ s₁ (mkF m 9 #[.val (.int p1)] [(.int p1)])
    refine Goes.step (fun _ k => XS.iconst X0.here hx rfl (hb hby d1_9) k) ?_
    show Goes p e below s _ _ _ s₁ (mkF m 10 #[.val (.int p1)] [(.int (1 : Int32)), (.int p1)])
    refine Goes.ite (Q := PA h0) (fun hc10 => ?_) (fun hc10 => ?_)
    · refine Goes.step (fun _ k => XS.icmpNo X0.here hx rfl (hb hby d1_10) rfl (teq hc10).2 k) ?_
      show Goes p e below s _ _ _ s₁ (mkF m 13 #[.val (.int p1)] [])
      obtain ⟨T2, X2, e2, st2⟩ := getS2 X0 hx hZ hown (host := "") (Or.inl (hw _ (List.mem_of_getElem? (i := 23) rfl))) Via.refl e0 S_ARTICLE (g := (mkF m 13 #[.val (.int p1)] [])) rfl (hb hby d1_13)
      refine Goes.step st2 ?_
      show Goes p e below s _ _ _ T2 (mkF m 16 #[.val (.int p1)] [(.ref aARTICLE)])
      exact Goes.outR X2 hx hlk Bd.returns rfl rfl (hb hby d1_16) ⟨rfl, rfl, e2⟩ (by decide) (by decide)
    · refine Goes.step (fun _ k => XS.icmpYes X0.here hx rfl (pc0 := 10) (pc' := 17) rfl (hb hby d1_10) rfl (feq hc10).2 (by decide) (by decide) k) ?_
      show Goes p e below s _ _ _ s₁ (mkF m 17 #[.val (.int p1)] [])
      refine Goes.step (fun _ k => XS.iloadN X0.here hx rfl (hb hby d1_17) rfl k) ?_
      show Goes p e below s _ _ _ s₁ (mkF m 18 #[.val (.int p1)] [(.int p1)])
      refine Goes.step (fun _ k => XS.iconst X0.here hx rfl (hb hby d1_18) k) ?_
      show Goes p e below s _ _ _ s₁ (mkF m 19 #[.val (.int p1)] [(.int (2 : Int32)), (.int p1)])
      refine Goes.ite (Q := PA h0) (fun hc19 => ?_) (fun hc19 => ?_)
      · refine Goes.step (fun _ k => XS.icmpNo X0.here hx rfl (hb hby d1_19) rfl (teq hc19).2 k) ?_
        show Goes p e below s _ _ _ s₁ (mkF m 22 #[.val (.int p1)] [])
        obtain ⟨T3, X3, e3, st3⟩ := getS2 X0 hx hZ hown (host := "") (Or.inl (hw _ (List.mem_of_getElem? (i := 22) rfl))) Via.refl e0 S_DECIMAL (g := (mkF m 22 #[.val (.int p1)] [])) rfl (hb hby d1_22)
        refine Goes.step st3 ?_
        show Goes p e below s _ _ _ T3 (mkF m 25 #[.val (.int p1)] [(.ref aDECIMAL)])
        exact Goes.outR X3 hx hlk Bd.returns rfl rfl (hb hby d1_25) ⟨rfl, rfl, e3⟩ (by decide) (by decide)
      · refine Goes.step (fun _ k => XS.icmpYes X0.here hx rfl (pc0 := 19) (pc' := 26) rfl (hb hby d1_19) rfl (feq hc19).2 (by decide) (by decide) k) ?_
        show Goes p e below s _ _ _ s₁ (mkF m 26 #[.val (.int p1)] [])
        refine Goes.step (fun _ k => XS.iloadN X0.here hx rfl (hb hby d1_26) rfl k) ?_
        show Goes p e below s _ _ _ s₁ (mkF m 27 #[.val (.int p1)] [(.int p1)])
        refine Goes.step (fun _ k => XS.iconst X0.here hx rfl (hb hby d1_27) k) ?_
        show Goes p e below s _ _ _ s₁ (mkF m 28 #[.val (.int p1)] [(.int (3 : Int32)), (.int p1)])
        refine Goes.ite (Q := PA h0) (fun hc28 => ?_) (fun hc28 => ?_)
        · refine Goes.step (fun _ k => XS.icmpNo X0.here hx rfl (hb hby d1_28) rfl (teq hc28).2 k) ?_
          show Goes p e below s _ _ _ s₁ (mkF m 31 #[.val (.int p1)] [])
          obtain ⟨T4, X4, e4, st4⟩ := getS2 X0 hx hZ hown (host := "") (Or.inl (hw _ (List.mem_of_getElem? (i := 19) rfl))) Via.refl e0 S_EXHIBIT (g := (mkF m 31 #[.val (.int p1)] [])) rfl (hb hby d1_31)
          refine Goes.step st4 ?_
          show Goes p e below s _ _ _ T4 (mkF m 34 #[.val (.int p1)] [(.ref aEXHIBIT)])
          exact Goes.outR X4 hx hlk Bd.returns rfl rfl (hb hby d1_34) ⟨rfl, rfl, e4⟩ (by decide) (by decide)
        · refine Goes.step (fun _ k => XS.icmpYes X0.here hx rfl (pc0 := 28) (pc' := 35) rfl (hb hby d1_28) rfl (feq hc28).2 (by decide) (by decide) k) ?_
          show Goes p e below s _ _ _ s₁ (mkF m 35 #[.val (.int p1)] [])
          refine Goes.step (fun _ k => XS.iloadN X0.here hx rfl (hb hby d1_35) rfl k) ?_
          show Goes p e below s _ _ _ s₁ (mkF m 36 #[.val (.int p1)] [(.int p1)])
          refine Goes.step (fun _ k => XS.iconst X0.here hx rfl (hb hby d1_36) k) ?_
          show Goes p e below s _ _ _ s₁ (mkF m 37 #[.val (.int p1)] [(.int (4 : Int32)), (.int p1)])
          refine Goes.ite (Q := PA h0) (fun hc37 => ?_) (fun hc37 => ?_)
          · refine Goes.step (fun _ k => XS.icmpNo X0.here hx rfl (hb hby d1_37) rfl (teq hc37).2 k) ?_
            show Goes p e below s _ _ _ s₁ (mkF m 40 #[.val (.int p1)] [])
            obtain ⟨T5, X5, e5, st5⟩ := getS2 X0 hx hZ hown (host := "") (Or.inl (hw _ (List.mem_of_getElem? (i := 28) rfl))) Via.refl e0 S_DIGIT (g := (mkF m 40 #[.val (.int p1)] [])) rfl (hb hby d1_40)
            refine Goes.step st5 ?_
            show Goes p e below s _ _ _ T5 (mkF m 43 #[.val (.int p1)] [(.ref aDIGIT)])
            exact Goes.outR X5 hx hlk Bd.returns rfl rfl (hb hby d1_43) ⟨rfl, rfl, e5⟩ (by decide) (by decide)
          · refine Goes.step (fun _ k => XS.icmpYes X0.here hx rfl (pc0 := 37) (pc' := 44) rfl (hb hby d1_37) rfl (feq hc37).2 (by decide) (by decide) k) ?_
            show Goes p e below s _ _ _ s₁ (mkF m 44 #[.val (.int p1)] [])
            refine Goes.step (fun _ k => XS.iloadN X0.here hx rfl (hb hby d1_44) rfl k) ?_
            show Goes p e below s _ _ _ s₁ (mkF m 45 #[.val (.int p1)] [(.int p1)])
            refine Goes.step (fun _ k => XS.iconst X0.here hx rfl (hb hby d1_45) k) ?_
            show Goes p e below s _ _ _ s₁ (mkF m 46 #[.val (.int p1)] [(.int (5 : Int32)), (.int p1)])
            refine Goes.ite (Q := PA h0) (fun hc46 => ?_) (fun hc46 => ?_)
            · refine Goes.step (fun _ k => XS.icmpNo X0.here hx rfl (hb hby d1_46) rfl (teq hc46).2 k) ?_
              show Goes p e below s _ _ _ s₁ (mkF m 49 #[.val (.int p1)] [])
              obtain ⟨T6, X6, e6, st6⟩ := getS2 X0 hx hZ hown (host := "") (Or.inl (hw _ (List.mem_of_getElem? (i := 34) rfl))) Via.refl e0 S_LOWER_LETTER (g := (mkF m 49 #[.val (.int p1)] [])) rfl (hb hby d1_49)
              refine Goes.step st6 ?_
              show Goes p e below s _ _ _ T6 (mkF m 52 #[.val (.int p1)] [(.ref aLOWER_LETTER)])
              exact Goes.outR X6 hx hlk Bd.returns rfl rfl (hb hby d1_52) ⟨rfl, rfl, e6⟩ (by decide) (by decide)
            · refine Goes.step (fun _ k => XS.icmpYes X0.here hx rfl (pc0 := 46) (pc' := 53) rfl (hb hby d1_46) rfl (feq hc46).2 (by decide) (by decide) k) ?_
              show Goes p e below s _ _ _ s₁ (mkF m 53 #[.val (.int p1)] [])
              refine Goes.step (fun _ k => XS.iloadN X0.here hx rfl (hb hby d1_53) rfl k) ?_
              show Goes p e below s _ _ _ s₁ (mkF m 54 #[.val (.int p1)] [(.int p1)])
              refine Goes.step (fun _ k => XS.bipush X0.here hx rfl (hb hby d1_54) k) ?_
              show Goes p e below s _ _ _ s₁ (mkF m 56 #[.val (.int p1)] [(.int (6 : Int32)), (.int p1)])
              refine Goes.ite (Q := PA h0) (fun hc56 => ?_) (fun hc56 => ?_)
              · refine Goes.step (fun _ k => XS.icmpNo X0.here hx rfl (hb hby d1_56) rfl (teq hc56).2 k) ?_
                show Goes p e below s _ _ _ s₁ (mkF m 59 #[.val (.int p1)] [])
                obtain ⟨T7, X7, e7, st7⟩ := getS2 X0 hx hZ hown (host := "") (Or.inl (hw _ (List.mem_of_getElem? (i := 32) rfl))) Via.refl e0 S_UPPER_LETTER (g := (mkF m 59 #[.val (.int p1)] [])) rfl (hb hby d1_59)
                refine Goes.step st7 ?_
                show Goes p e below s _ _ _ T7 (mkF m 62 #[.val (.int p1)] [(.ref aUPPER_LETTER)])
                exact Goes.outR X7 hx hlk Bd.returns rfl rfl (hb hby d1_62) ⟨rfl, rfl, e7⟩ (by decide) (by decide)
              · refine Goes.step (fun _ k => XS.icmpYes X0.here hx rfl (pc0 := 56) (pc' := 63) rfl (hb hby d1_56) rfl (feq hc56).2 (by decide) (by decide) k) ?_
                show Goes p e below s _ _ _ s₁ (mkF m 63 #[.val (.int p1)] [])
                refine Goes.step (fun _ k => XS.iloadN X0.here hx rfl (hb hby d1_63) rfl k) ?_
                show Goes p e below s _ _ _ s₁ (mkF m 64 #[.val (.int p1)] [(.int p1)])
                refine Goes.step (fun _ k => XS.bipush X0.here hx rfl (hb hby d1_64) k) ?_
                show Goes p e below s _ _ _ s₁ (mkF m 66 #[.val (.int p1)] [(.int (7 : Int32)), (.int p1)])
                refine Goes.ite (Q := PA h0) (fun hc66 => ?_) (fun hc66 => ?_)
                · refine Goes.step (fun _ k => XS.icmpNo X0.here hx rfl (hb hby d1_66) rfl (teq hc66).2 k) ?_
                  show Goes p e below s _ _ _ s₁ (mkF m 69 #[.val (.int p1)] [])
                  obtain ⟨T8, X8, e8, st8⟩ := getS2 X0 hx hZ hown (host := "") (Or.inl (hw _ (List.mem_of_getElem? (i := 26) rfl))) Via.refl e0 S_LOWER_ROMAN (g := (mkF m 69 #[.val (.int p1)] [])) rfl (hb hby d1_69)
                  refine Goes.step st8 ?_
                  show Goes p e below s _ _ _ T8 (mkF m 72 #[.val (.int p1)] [(.ref aLOWER_ROMAN)])
                  exact Goes.outR X8 hx hlk Bd.returns rfl rfl (hb hby d1_72) ⟨rfl, rfl, e8⟩ (by decide) (by decide)
                · refine Goes.step (fun _ k => XS.icmpYes X0.here hx rfl (pc0 := 66) (pc' := 73) rfl (hb hby d1_66) rfl (feq hc66).2 (by decide) (by decide) k) ?_
                  show Goes p e below s _ _ _ s₁ (mkF m 73 #[.val (.int p1)] [])
                  obtain ⟨T9, X9, e9, st9⟩ := getS2 X0 hx hZ hown (host := "") (Or.inl (hw _ (List.mem_of_getElem? (i := 30) rfl))) Via.refl e0 S_UPPER_ROMAN (g := (mkF m 73 #[.val (.int p1)] [])) rfl (hb hby d1_73)
                  refine Goes.step st9 ?_
                  show Goes p e below s _ _ _ T9 (mkF m 76 #[.val (.int p1)] [(.ref aUPPER_ROMAN)])
                  exact Goes.outR X9 hx hlk Bd.returns rfl rfl (hb hby d1_76) ⟨rfl, rfl, e9⟩ (by decide) (by decide)
theorem d2_0 : decode prog_58_method_4_code 0 = .ok (.aload_n 0, 1) := by decide +kernel
theorem d2_1 : decode prog_58_method_4_code 1 = .ok (.getfield 50, 3) := by decide +kernel
theorem d2_4 : decode prog_58_method_4_code 4 = .ok (.ifnull 14, 3) := by decide +kernel
theorem d2_7 : decode prog_58_method_4_code 7 = .ok (.aload_n 0, 1) := by decide +kernel
theorem d2_8 : decode prog_58_method_4_code 8 = .ok (.getstatic 10, 3) := by decide +kernel
theorem d2_11 : decode prog_58_method_4_code 11 = .ok (.if_acmp .eq 7, 3) := by decide +kernel
theorem d2_14 : decode prog_58_method_4_code 14 = .ok (.iconst 1, 1) := by decide +kernel
theorem d2_15 : decode prog_58_method_4_code 15 = .ok (.goto 4, 3) := by decide +kernel
theorem d2_18 : decode prog_58_method_4_code 18 = .ok (.iconst 0, 1) := by decide +kernel
theorem d2_19 : decode prog_58_method_4_code 19 = .ok (.ireturn, 1) := by decide +kernel
theorem pn_2 : plainName "com/example/recital/recital/service/Markers$Style" = true := by first | (simp [plainName, overriddenIn]; done) | decide +kernel
theorem ef_2 (m : MethodId) (a1 : Addr) : entryFrame m #[(.ref a1)] 1 = mkF m 0 #[.val (.ref a1)] [] := by first | (simp [entryFrame, mkF, argsToLocals, Value.category]; done) | rfl
def f2_18 (a1 : Addr) (oh : Option Addr) (d : Addr) : Int32 := (0 : Int32)
def f2 (a1 : Addr) (oh : Option Addr) (d : Addr) : Int32 := (if (oh = none) then (f2_18 a1 oh d) else (if (a1 = d) then (f2_18 a1 oh d) else (1 : Int32)))
set_option maxRecDepth 65536 in
set_option maxHeartbeats 40000000 in
theorem rm2 (l : Launch) (Z : State) (a0 : Array Value) (hw : ∀ d ∈ tables_1, d.before a0 Z = true) (ws : List Jvm.Cond) (a1 : Addr) (oh : Option Addr) (d : Addr) (h0 : Heap) (Fo : Fld Z h0 a1 "com/example/recital/recital/service/Markers$Style" "heading" "Lcom/example/recital/recital/model/Heading$Kind;" (ov oh)) (Sd : Sta Z h0 "com/example/recital/recital/service/Markers$Style" "DECIMAL" "Lcom/example/recital/recital/service/Markers$Style;" (.ref d)) :
    MetFree l (⟨"com/example/recital/recital/service/Markers$Style", "hasKeyword", "()Z"⟩ : MethodName) (head1 (Jvm.Cond.code (⟨"com/example/recital/recital/service/Markers$Style", "hasKeyword", "()Z"⟩ : MethodName) prog_58_method_4_code 1 (some .boolean) :: ws) ({ frames := 0, cells := 0, slots := 0, locals := 0 } : Room)) (fun a U => a = #[(.ref a1)] ∧ Z.Warmed39 U.vm ∧ U.heap = h0) (fun _ _ _ _ _ => True) (fun _ U o U' => ∃ v L, o = .returned v ∧ PI h0 (f2 a1 oh d) v U'.heap L ∧ FrameEnd U o U' L ({ frames := 0, cells := 0, slots := 0, locals := 0 } : Room).cells ({ frames := 0, cells := 0, slots := 0, locals := 0 } : Room).slots) := by
  refine MetFree.of_bodySF (plainFor_of_name pn_2) hisR ?_
  intro p e s m args below meth c s₁ Bd hml0 hP hK
  obtain ⟨rfl, hZ, hh⟩ := hP
  have hx := Bd.exec
  have hby := Bd.bytes
  have hlk := Bd.notSynchronized
  have hml : c.maxLocals = 1 := hml0
  have hown : s.vm.findClass "com/example/recital/recital/service/Markers$Style" = some m.cls := findClass_of_methodNamed Bd.named
  have X0 : Stand p l e ({ frames := 0, cells := 0, slots := 0, locals := 0 } : Room) s m #[(.ref a1)] below meth c s₁ [] 0 0 := Stand.of_body Bd
  have e0 : s₁.heap = h0 := by rw [← hh, Bd.state]; rfl
  have B18 : ∀ (T : State), Stand p l e ({ frames := 0, cells := 0, slots := 0, locals := 0 } : Room) s m #[(.ref a1)] below meth c T [] 0 0 → T.heap = h0 → ∀ (_ : True), Goes p e below s ({ frames := 0, cells := 0, slots := 0, locals := 0 } : Room).cells ({ frames := 0, cells := 0, slots := 0, locals := 0 } : Room).slots (PI h0 (f2_18 a1 oh d)) T (mkF m 18 #[.val (.ref a1)] []) := by
    intro T X eT _
    refine Goes.step (fun _ k => XS.iconst X.here hx rfl (hb hby d2_18) k) ?_
    show Goes p e below s _ _ _ T (mkF m 19 #[.val (.ref a1)] [(.int (0 : Int32))])
    exact Goes.outN X hx hlk (t := .boolean) Bd.returns (by simp) (hb hby d2_19) ⟨rfl, rfl, eT⟩ (by decide) (by decide)
  show Goes p e below s ({ frames := 0, cells := 0, slots := 0, locals := 0 } : Room).cells ({ frames := 0, cells := 0, slots := 0, locals := 0 } : Room).slots (PI h0 (f2 a1 oh d)) s₁ (entryFrame m #[(.ref a1)] 1)
  refine Goes.step (fun t k => castTop (ef_2 m a1) k) ?_
  refine Goes.step (fun _ k => XS.aloadN X0.here hx rfl (hb hby d2_0) rfl rfl k) ?_
  show Goes p e below s _ _ _ s₁ (mkF m 1 #[.val (.ref a1)] [(.ref a1)])
  obtain ⟨T1, X1, e1, st1⟩ := getF X0 hx hZ hown (host := "") (Or.inl (hw _ (List.mem_of_getElem? (i := 13) rfl))) Via.refl e0 Fo (g := (mkF m 1 #[.val (.ref a1)] [(.ref a1)])) rfl rfl (hb hby d2_1)
  refine Goes.step st1 ?_
  show Goes p e below s _ _ _ T1 (mkF m 4 #[.val (.ref a1)] [(ov oh)])
  refine Goes.ite (Q := PI h0) (fun hc4 => ?_) (fun hc4 => ?_)
  · refine Goes.step (fun _ k => XS.ifnullYes X1.here hx rfl (rest := []) (pc0 := 4) (pc' := 18) rfl (hb hby d2_4) (by rw [hc4]; rfl) (by decide) (by decide) k) ?_
    show Goes p e below s _ _ _ T1 (mkF m 18 #[.val (.ref a1)] [])
    exact B18 T1 X1 e1 trivial
  · obtain ⟨b4, hb4⟩ := Option.ne_none_iff_exists'.mp hc4
    refine Goes.step (fun _ k => XS.ifnullNo X1.here hx rfl (b := b4) (rest := []) (hb hby d2_4) (by rw [hb4]; rfl) k) ?_
    show Goes p e below s _ _ _ T1 (mkF m 7 #[.val (.ref a1)] [])
    refine Goes.step (fun _ k => XS.aloadN X1.here hx rfl (hb hby d2_7) rfl rfl k) ?_
    show Goes p e below s _ _ _ T1 (mkF m 8 #[.val (.ref a1)] [(.ref a1)])
    obtain ⟨T2, X2, e2, st2⟩ := getS2 X1 hx hZ hown (host := "") (Or.inl (hw _ (List.mem_of_getElem? (i := 17) rfl))) Via.refl e1 Sd (g := (mkF m 8 #[.val (.ref a1)] [(.ref a1)])) rfl (hb hby d2_8)
    refine Goes.step st2 ?_
    show Goes p e below s _ _ _ T2 (mkF m 11 #[.val (.ref a1)] [(.ref d), (.ref a1)])
    refine Goes.ite (Q := PI h0) (fun hc11 => ?_) (fun hc11 => ?_)
    · refine Goes.step (fun _ k => acmp X2 hx rfl rfl rfl (pc0 := 11) (pc' := 18) (same := true) rfl (hb hby d2_11) rfl (by simp [hc11]) (by decide) (by decide) k) ?_
      show Goes p e below s _ _ _ T2 (mkF m 18 #[.val (.ref a1)] [])
      exact B18 T2 X2 e2 trivial
    · refine Goes.step (fun _ k => acmp X2 hx rfl rfl rfl (pc0 := 11) (pc' := 14) (same := false) rfl (hb hby d2_11) rfl (by simp [hc11]) (by decide) (by decide) k) ?_
      show Goes p e below s _ _ _ T2 (mkF m 14 #[.val (.ref a1)] [])
      refine Goes.step (fun _ k => XS.iconst X2.here hx rfl (hb hby d2_14) k) ?_
      show Goes p e below s _ _ _ T2 (mkF m 15 #[.val (.ref a1)] [(.int (1 : Int32))])
      refine Goes.step (fun _ k => XS.goto X2.here hx rfl (pc0 := 15) (pc' := 19) rfl (hb hby d2_15) (by decide) (by decide) k) ?_
      show Goes p e below s _ _ _ T2 (mkF m 19 #[.val (.ref a1)] [(.int (1 : Int32))])
      exact Goes.outN X2 hx hlk (t := .boolean) Bd.returns (by simp) (hb hby d2_19) ⟨rfl, rfl, e2⟩ (by decide) (by decide)
def own_o (i : Int32) (kSECTION kARTICLE kEXHIBIT : Addr) : Option Addr := if i = 0 then some kSECTION else if i = 1 then some kARTICLE else if i = 2 then some kSECTION else if i = 3 then some kEXHIBIT else none
theorem own_all (P : Addr → Option Addr → Prop) (i : Int32) (aSECTION aARTICLE aDECIMAL aEXHIBIT aDIGIT aLOWER_LETTER aUPPER_LETTER aLOWER_ROMAN aUPPER_ROMAN kSECTION kARTICLE kEXHIBIT : Addr) (hSECTION : P aSECTION (some kSECTION)) (hARTICLE : P aARTICLE (some kARTICLE)) (hDECIMAL : P aDECIMAL (some kSECTION)) (hEXHIBIT : P aEXHIBIT (some kEXHIBIT)) (hDIGIT : P aDIGIT (none)) (hLOWER_LETTER : P aLOWER_LETTER (none)) (hUPPER_LETTER : P aUPPER_LETTER (none)) (hLOWER_ROMAN : P aLOWER_ROMAN (none)) (hUPPER_ROMAN : P aUPPER_ROMAN (none)) : P (f1 i aSECTION aARTICLE aDECIMAL aEXHIBIT aDIGIT aLOWER_LETTER aUPPER_LETTER aLOWER_ROMAN aUPPER_ROMAN) (own_o i kSECTION kARTICLE kEXHIBIT) := by
  simp only [f1, own_o]
  repeat' split
  all_goals first | assumption | contradiction
theorem pd_0_0 : parseMethodDescriptor "(I)Lcom/example/recital/recital/service/Markers$Style;" = some ⟨[.int], some (.object "com/example/recital/recital/service/Markers$Style")⟩ := by decide +kernel
theorem pd_0_1 : parseMethodDescriptor "()Z" = some ⟨[], some .boolean⟩ := by decide +kernel
theorem pn_0 : plainName "com/example/recital/recital/service/StyleHasKeywordPinLaw" = true := by first | (simp [plainName, overriddenIn]; done) | decide +kernel
theorem ef_0 (m : MethodId) (p1 : Int32) : entryFrame m #[(.int p1)] maxLocals = mkF m 0 #[.val (.int p1), .unset, .unset, .unset] [] := by first | (simp [entryFrame, mkF, argsToLocals, Value.category, maxLocals]; done) | rfl
def f0_32 (p1 : Int32) (aSECTION : Addr) (aARTICLE : Addr) (aDECIMAL : Addr) (aEXHIBIT : Addr) (aDIGIT : Addr) (aLOWER_LETTER : Addr) (aUPPER_LETTER : Addr) (aLOWER_ROMAN : Addr) (aUPPER_ROMAN : Addr) (kSECTION : Addr) (kARTICLE : Addr) (kEXHIBIT : Addr) (t0_32 : Int32) : Int32 := (if ((f2 (f1 ((p1 &&& (2147483647 : Int32)) % (9 : Int32)) aSECTION aARTICLE aDECIMAL aEXHIBIT aDIGIT aLOWER_LETTER aUPPER_LETTER aLOWER_ROMAN aUPPER_ROMAN) (own_o ((p1 &&& (2147483647 : Int32)) % (9 : Int32)) kSECTION kARTICLE kEXHIBIT) aDECIMAL) = t0_32) then (1 : Int32) else (0 : Int32))
def f0_27 (p1 : Int32) (aSECTION : Addr) (aARTICLE : Addr) (aDECIMAL : Addr) (aEXHIBIT : Addr) (aDIGIT : Addr) (aLOWER_LETTER : Addr) (aUPPER_LETTER : Addr) (aLOWER_ROMAN : Addr) (aUPPER_ROMAN : Addr) (kSECTION : Addr) (kARTICLE : Addr) (kEXHIBIT : Addr) : Int32 := (f0_32 p1 aSECTION aARTICLE aDECIMAL aEXHIBIT aDIGIT aLOWER_LETTER aUPPER_LETTER aLOWER_ROMAN aUPPER_ROMAN kSECTION kARTICLE kEXHIBIT (1 : Int32))
def f0 (p1 : Int32) (aSECTION : Addr) (aARTICLE : Addr) (aDECIMAL : Addr) (aEXHIBIT : Addr) (aDIGIT : Addr) (aLOWER_LETTER : Addr) (aUPPER_LETTER : Addr) (aLOWER_ROMAN : Addr) (aUPPER_ROMAN : Addr) (kSECTION : Addr) (kARTICLE : Addr) (kEXHIBIT : Addr) : Int32 := (if (((p1 &&& (2147483647 : Int32)) % (9 : Int32)) = (0 : Int32)) then (f0_27 p1 aSECTION aARTICLE aDECIMAL aEXHIBIT aDIGIT aLOWER_LETTER aUPPER_LETTER aLOWER_ROMAN aUPPER_ROMAN kSECTION kARTICLE kEXHIBIT) else (if (((p1 &&& (2147483647 : Int32)) % (9 : Int32)) = (1 : Int32)) then (f0_27 p1 aSECTION aARTICLE aDECIMAL aEXHIBIT aDIGIT aLOWER_LETTER aUPPER_LETTER aLOWER_ROMAN aUPPER_ROMAN kSECTION kARTICLE kEXHIBIT) else (if (((p1 &&& (2147483647 : Int32)) % (9 : Int32)) = (3 : Int32)) then (f0_27 p1 aSECTION aARTICLE aDECIMAL aEXHIBIT aDIGIT aLOWER_LETTER aUPPER_LETTER aLOWER_ROMAN aUPPER_ROMAN kSECTION kARTICLE kEXHIBIT) else (f0_32 p1 aSECTION aARTICLE aDECIMAL aEXHIBIT aDIGIT aLOWER_LETTER aUPPER_LETTER aLOWER_ROMAN aUPPER_ROMAN kSECTION kARTICLE kEXHIBIT (0 : Int32)))))
set_option maxRecDepth 65536 in
set_option maxHeartbeats 40000000 in
theorem rm0 (l : Launch) (Z : State) (a0 : Array Value) (hw : ∀ d ∈ tables_1, d.before a0 Z = true) (ws : List Jvm.Cond) (p1 : Int32) (aSECTION : Addr) (aARTICLE : Addr) (aDECIMAL : Addr) (aEXHIBIT : Addr) (aDIGIT : Addr) (aLOWER_LETTER : Addr) (aUPPER_LETTER : Addr) (aLOWER_ROMAN : Addr) (aUPPER_ROMAN : Addr) (kSECTION : Addr) (kARTICLE : Addr) (kEXHIBIT : Addr) (h0 : Heap) (S_SECTION : Sta Z h0 "com/example/recital/recital/service/Markers$Style" "SECTION" "Lcom/example/recital/recital/service/Markers$Style;" (.ref aSECTION)) (S_ARTICLE : Sta Z h0 "com/example/recital/recital/service/Markers$Style" "ARTICLE" "Lcom/example/recital/recital/service/Markers$Style;" (.ref aARTICLE)) (S_DECIMAL : Sta Z h0 "com/example/recital/recital/service/Markers$Style" "DECIMAL" "Lcom/example/recital/recital/service/Markers$Style;" (.ref aDECIMAL)) (S_EXHIBIT : Sta Z h0 "com/example/recital/recital/service/Markers$Style" "EXHIBIT" "Lcom/example/recital/recital/service/Markers$Style;" (.ref aEXHIBIT)) (S_DIGIT : Sta Z h0 "com/example/recital/recital/service/Markers$Style" "DIGIT" "Lcom/example/recital/recital/service/Markers$Style;" (.ref aDIGIT)) (S_LOWER_LETTER : Sta Z h0 "com/example/recital/recital/service/Markers$Style" "LOWER_LETTER" "Lcom/example/recital/recital/service/Markers$Style;" (.ref aLOWER_LETTER)) (S_UPPER_LETTER : Sta Z h0 "com/example/recital/recital/service/Markers$Style" "UPPER_LETTER" "Lcom/example/recital/recital/service/Markers$Style;" (.ref aUPPER_LETTER)) (S_LOWER_ROMAN : Sta Z h0 "com/example/recital/recital/service/Markers$Style" "LOWER_ROMAN" "Lcom/example/recital/recital/service/Markers$Style;" (.ref aLOWER_ROMAN)) (S_UPPER_ROMAN : Sta Z h0 "com/example/recital/recital/service/Markers$Style" "UPPER_ROMAN" "Lcom/example/recital/recital/service/Markers$Style;" (.ref aUPPER_ROMAN)) (E_SECTION : Exa Z h0 aSECTION "com/example/recital/recital/service/Markers$Style") (E_ARTICLE : Exa Z h0 aARTICLE "com/example/recital/recital/service/Markers$Style") (E_DECIMAL : Exa Z h0 aDECIMAL "com/example/recital/recital/service/Markers$Style") (E_EXHIBIT : Exa Z h0 aEXHIBIT "com/example/recital/recital/service/Markers$Style") (E_DIGIT : Exa Z h0 aDIGIT "com/example/recital/recital/service/Markers$Style") (E_LOWER_LETTER : Exa Z h0 aLOWER_LETTER "com/example/recital/recital/service/Markers$Style") (E_UPPER_LETTER : Exa Z h0 aUPPER_LETTER "com/example/recital/recital/service/Markers$Style") (E_LOWER_ROMAN : Exa Z h0 aLOWER_ROMAN "com/example/recital/recital/service/Markers$Style") (E_UPPER_ROMAN : Exa Z h0 aUPPER_ROMAN "com/example/recital/recital/service/Markers$Style") (F_SECTION : Fld Z h0 aSECTION "com/example/recital/recital/service/Markers$Style" "heading" "Lcom/example/recital/recital/model/Heading$Kind;" (ov (some kSECTION))) (F_ARTICLE : Fld Z h0 aARTICLE "com/example/recital/recital/service/Markers$Style" "heading" "Lcom/example/recital/recital/model/Heading$Kind;" (ov (some kARTICLE))) (F_DECIMAL : Fld Z h0 aDECIMAL "com/example/recital/recital/service/Markers$Style" "heading" "Lcom/example/recital/recital/model/Heading$Kind;" (ov (some kSECTION))) (F_EXHIBIT : Fld Z h0 aEXHIBIT "com/example/recital/recital/service/Markers$Style" "heading" "Lcom/example/recital/recital/model/Heading$Kind;" (ov (some kEXHIBIT))) (F_DIGIT : Fld Z h0 aDIGIT "com/example/recital/recital/service/Markers$Style" "heading" "Lcom/example/recital/recital/model/Heading$Kind;" (ov (none))) (F_LOWER_LETTER : Fld Z h0 aLOWER_LETTER "com/example/recital/recital/service/Markers$Style" "heading" "Lcom/example/recital/recital/model/Heading$Kind;" (ov (none))) (F_UPPER_LETTER : Fld Z h0 aUPPER_LETTER "com/example/recital/recital/service/Markers$Style" "heading" "Lcom/example/recital/recital/model/Heading$Kind;" (ov (none))) (F_LOWER_ROMAN : Fld Z h0 aLOWER_ROMAN "com/example/recital/recital/service/Markers$Style" "heading" "Lcom/example/recital/recital/model/Heading$Kind;" (ov (none))) (F_UPPER_ROMAN : Fld Z h0 aUPPER_ROMAN "com/example/recital/recital/service/Markers$Style" "heading" "Lcom/example/recital/recital/model/Heading$Kind;" (ov (none))) :
    MetFree l x (head1 (Jvm.Cond.code x code maxLocals ret :: ws) room_1) (fun a U => a = #[(.int p1)] ∧ Z.Warmed39 U.vm ∧ U.heap = h0) (fun _ _ _ _ _ => True) (fun _ U o U' => ∃ v L, o = .returned v ∧ PI h0 (f0 p1 aSECTION aARTICLE aDECIMAL aEXHIBIT aDIGIT aLOWER_LETTER aUPPER_LETTER aLOWER_ROMAN aUPPER_ROMAN kSECTION kARTICLE kEXHIBIT) v U'.heap L ∧ FrameEnd U o U' L room_1.cells room_1.slots) := by
  refine MetFree.of_bodySF (plainFor_of_name pn_0) hisR ?_
  intro p e s m args below meth c s₁ Bd hml0 hP hK
  obtain ⟨rfl, hZ, hh⟩ := hP
  have hx := Bd.exec
  have hby := Bd.bytes
  have hlk := Bd.notSynchronized
  have hml : c.maxLocals = 4 := hml0
  have hown : s.vm.findClass "com/example/recital/recital/service/StyleHasKeywordPinLaw" = some m.cls := findClass_of_methodNamed Bd.named
  have X0 : Stand p l e room_1 s m #[(.int p1)] below meth c s₁ [] 0 0 := Stand.of_body Bd
  have e0 : s₁.heap = h0 := by rw [← hh, Bd.state]; rfl
  have B32 : ∀ (T : State), Stand p l e room_1 s m #[(.int p1)] below meth c T [] 0 0 → T.heap = h0 → ∀ (t0_32 : Int32), Goes p e below s room_1.cells room_1.slots (PI h0 (f0_32 p1 aSECTION aARTICLE aDECIMAL aEXHIBIT aDIGIT aLOWER_LETTER aUPPER_LETTER aLOWER_ROMAN aUPPER_ROMAN kSECTION kARTICLE kEXHIBIT t0_32)) T (mkF m 32 #[.val (.int p1), .val (.int ((p1 &&& (2147483647 : Int32)) % (9 : Int32))), .val (.ref (f1 ((p1 &&& (2147483647 : Int32)) % (9 : Int32)) aSECTION aARTICLE aDECIMAL aEXHIBIT aDIGIT aLOWER_LETTER aUPPER_LETTER aLOWER_ROMAN aUPPER_ROMAN)), .unset] [(.int t0_32)]) := by
    intro T X eT t0_32
    refine Goes.step (fun _ k => XS.istoreN X.here hx rfl (hb hby at_32) rfl (l' := #[.val (.int p1), .val (.int ((p1 &&& (2147483647 : Int32)) % (9 : Int32))), .val (.ref (f1 ((p1 &&& (2147483647 : Int32)) % (9 : Int32)) aSECTION aARTICLE aDECIMAL aEXHIBIT aDIGIT aLOWER_LETTER aUPPER_LETTER aLOWER_ROMAN aUPPER_ROMAN)), .val (.int t0_32)]) rfl k) ?_
    show Goes p e below s _ _ _ T (mkF m 33 #[.val (.int p1), .val (.int ((p1 &&& (2147483647 : Int32)) % (9 : Int32))), .val (.ref (f1 ((p1 &&& (2147483647 : Int32)) % (9 : Int32)) aSECTION aARTICLE aDECIMAL aEXHIBIT aDIGIT aLOWER_LETTER aUPPER_LETTER aLOWER_ROMAN aUPPER_ROMAN)), .val (.int t0_32)] [])
    refine Goes.step (fun _ k => XS.aloadN X.here hx rfl (hb hby at_33) rfl rfl k) ?_
    show Goes p e below s _ _ _ T (mkF m 34 #[.val (.int p1), .val (.int ((p1 &&& (2147483647 : Int32)) % (9 : Int32))), .val (.ref (f1 ((p1 &&& (2147483647 : Int32)) % (9 : Int32)) aSECTION aARTICLE aDECIMAL aEXHIBIT aDIGIT aLOWER_LETTER aUPPER_LETTER aLOWER_ROMAN aUPPER_ROMAN)), .val (.int t0_32)] [(.ref (f1 ((p1 &&& (2147483647 : Int32)) % (9 : Int32)) aSECTION aARTICLE aDECIMAL aEXHIBIT aDIGIT aLOWER_LETTER aUPPER_LETTER aLOWER_ROMAN aUPPER_ROMAN))])
    have hEF := own_all (fun a o => Exa Z h0 a "com/example/recital/recital/service/Markers$Style" ∧ Fld Z h0 a "com/example/recital/recital/service/Markers$Style" "heading" "Lcom/example/recital/recital/model/Heading$Kind;" (ov o)) ((p1 &&& (2147483647 : Int32)) % (9 : Int32)) aSECTION aARTICLE aDECIMAL aEXHIBIT aDIGIT aLOWER_LETTER aUPPER_LETTER aLOWER_ROMAN aUPPER_ROMAN kSECTION kARTICLE kEXHIBIT ⟨E_SECTION, F_SECTION⟩ ⟨E_ARTICLE, F_ARTICLE⟩ ⟨E_DECIMAL, F_DECIMAL⟩ ⟨E_EXHIBIT, F_EXHIBIT⟩ ⟨E_DIGIT, F_DIGIT⟩ ⟨E_LOWER_LETTER, F_LOWER_LETTER⟩ ⟨E_UPPER_LETTER, F_UPPER_LETTER⟩ ⟨E_LOWER_ROMAN, F_LOWER_ROMAN⟩ ⟨E_UPPER_ROMAN, F_UPPER_ROMAN⟩
    obtain ⟨T1, X1, e1, st1⟩ := callPureV X hx hZ (C := "com/example/recital/recital/service/Markers$Style") (y := (⟨"com/example/recital/recital/service/Markers$Style", "hasKeyword", "()Z"⟩ : MethodName)) (z := (⟨"com/example/recital/recital/service/Markers$Style", "hasKeyword", "()Z"⟩ : MethodName)) hown (hw _ (List.mem_of_getElem? (i := 8) rfl)) (hw _ (List.mem_of_getElem? (i := 9) rfl)) (hw _ (List.mem_of_getElem? (i := 11) rfl)) (hw _ (List.mem_of_getElem? (i := 10) rfl)) (hw _ (List.mem_of_getElem? (i := 12) rfl)) (hw _ (List.mem_of_getElem? (i := 6) rfl)) (notFace_of_selects (args := #[]) (mvT hZ (hw _ (List.mem_of_getElem? (i := 11) rfl)))) (by decide) (W := 0) (argsL := []) (rest := []) (r := (.int (f2 (f1 ((p1 &&& (2147483647 : Int32)) % (9 : Int32)) aSECTION aARTICLE aDECIMAL aEXHIBIT aDIGIT aLOWER_LETTER aUPPER_LETTER aLOWER_ROMAN aUPPER_ROMAN) (own_o ((p1 &&& (2147483647 : Int32)) % (9 : Int32)) kSECTION kARTICLE kEXHIBIT) aDECIMAL))) (fun _ _ _ q => q) (rm2 l Z a0 hw [] (f1 ((p1 &&& (2147483647 : Int32)) % (9 : Int32)) aSECTION aARTICLE aDECIMAL aEXHIBIT aDIGIT aLOWER_LETTER aUPPER_LETTER aLOWER_ROMAN aUPPER_ROMAN) (own_o ((p1 &&& (2147483647 : Int32)) % (9 : Int32)) kSECTION kARTICLE kEXHIBIT) aDECIMAL h0 hEF.2 S_DECIMAL) (by decide) (by decide) (by decide) (by decide) eT hEF.1 (g := (mkF m 34 #[.val (.int p1), .val (.int ((p1 &&& (2147483647 : Int32)) % (9 : Int32))), .val (.ref (f1 ((p1 &&& (2147483647 : Int32)) % (9 : Int32)) aSECTION aARTICLE aDECIMAL aEXHIBIT aDIGIT aLOWER_LETTER aUPPER_LETTER aLOWER_ROMAN aUPPER_ROMAN)), .val (.int t0_32)] [(.ref (f1 ((p1 &&& (2147483647 : Int32)) % (9 : Int32)) aSECTION aARTICLE aDECIMAL aEXHIBIT aDIGIT aLOWER_LETTER aUPPER_LETTER aLOWER_ROMAN aUPPER_ROMAN))])) rfl (by rw [hml]; rfl) (lenOf pd_0_1 rfl) rfl (by show 2 * 0 + _ ≤ _; exact Nat.le_of_eq rfl) (hb hby at_34)
    refine Goes.step st1 ?_
    show Goes p e below s _ _ _ T1 (mkF m 37 #[.val (.int p1), .val (.int ((p1 &&& (2147483647 : Int32)) % (9 : Int32))), .val (.ref (f1 ((p1 &&& (2147483647 : Int32)) % (9 : Int32)) aSECTION aARTICLE aDECIMAL aEXHIBIT aDIGIT aLOWER_LETTER aUPPER_LETTER aLOWER_ROMAN aUPPER_ROMAN)), .val (.int t0_32)] [(.int (f2 (f1 ((p1 &&& (2147483647 : Int32)) % (9 : Int32)) aSECTION aARTICLE aDECIMAL aEXHIBIT aDIGIT aLOWER_LETTER aUPPER_LETTER aLOWER_ROMAN aUPPER_ROMAN) (own_o ((p1 &&& (2147483647 : Int32)) % (9 : Int32)) kSECTION kARTICLE kEXHIBIT) aDECIMAL))])
    refine Goes.step (fun _ k => XS.iloadN X1.here hx rfl (hb hby at_37) rfl k) ?_
    show Goes p e below s _ _ _ T1 (mkF m 38 #[.val (.int p1), .val (.int ((p1 &&& (2147483647 : Int32)) % (9 : Int32))), .val (.ref (f1 ((p1 &&& (2147483647 : Int32)) % (9 : Int32)) aSECTION aARTICLE aDECIMAL aEXHIBIT aDIGIT aLOWER_LETTER aUPPER_LETTER aLOWER_ROMAN aUPPER_ROMAN)), .val (.int t0_32)] [(.int t0_32), (.int (f2 (f1 ((p1 &&& (2147483647 : Int32)) % (9 : Int32)) aSECTION aARTICLE aDECIMAL aEXHIBIT aDIGIT aLOWER_LETTER aUPPER_LETTER aLOWER_ROMAN aUPPER_ROMAN) (own_o ((p1 &&& (2147483647 : Int32)) % (9 : Int32)) kSECTION kARTICLE kEXHIBIT) aDECIMAL))])
    refine Goes.ite (Q := PI h0) (fun hc38 => ?_) (fun hc38 => ?_)
    · refine Goes.step (fun _ k => XS.icmpNo X1.here hx rfl (hb hby at_38) rfl (teq hc38).2 k) ?_
      show Goes p e below s _ _ _ T1 (mkF m 41 #[.val (.int p1), .val (.int ((p1 &&& (2147483647 : Int32)) % (9 : Int32))), .val (.ref (f1 ((p1 &&& (2147483647 : Int32)) % (9 : Int32)) aSECTION aARTICLE aDECIMAL aEXHIBIT aDIGIT aLOWER_LETTER aUPPER_LETTER aLOWER_ROMAN aUPPER_ROMAN)), .val (.int t0_32)] [])
      refine Goes.step (fun _ k => XS.iconst X1.here hx rfl (hb hby at_41) k) ?_
      show Goes p e below s _ _ _ T1 (mkF m 42 #[.val (.int p1), .val (.int ((p1 &&& (2147483647 : Int32)) % (9 : Int32))), .val (.ref (f1 ((p1 &&& (2147483647 : Int32)) % (9 : Int32)) aSECTION aARTICLE aDECIMAL aEXHIBIT aDIGIT aLOWER_LETTER aUPPER_LETTER aLOWER_ROMAN aUPPER_ROMAN)), .val (.int t0_32)] [(.int (1 : Int32))])
      refine Goes.step (fun _ k => XS.goto X1.here hx rfl (pc0 := 42) (pc' := 46) rfl (hb hby at_42) (by decide) (by decide) k) ?_
      show Goes p e below s _ _ _ T1 (mkF m 46 #[.val (.int p1), .val (.int ((p1 &&& (2147483647 : Int32)) % (9 : Int32))), .val (.ref (f1 ((p1 &&& (2147483647 : Int32)) % (9 : Int32)) aSECTION aARTICLE aDECIMAL aEXHIBIT aDIGIT aLOWER_LETTER aUPPER_LETTER aLOWER_ROMAN aUPPER_ROMAN)), .val (.int t0_32)] [(.int (1 : Int32))])
      exact Goes.outN X1 hx hlk (t := .boolean) Bd.returns (by simp) (hb hby at_46) ⟨rfl, rfl, e1⟩ (by decide) (by decide)
    · refine Goes.step (fun _ k => XS.icmpYes X1.here hx rfl (pc0 := 38) (pc' := 45) rfl (hb hby at_38) rfl (feq hc38).2 (by decide) (by decide) k) ?_
      show Goes p e below s _ _ _ T1 (mkF m 45 #[.val (.int p1), .val (.int ((p1 &&& (2147483647 : Int32)) % (9 : Int32))), .val (.ref (f1 ((p1 &&& (2147483647 : Int32)) % (9 : Int32)) aSECTION aARTICLE aDECIMAL aEXHIBIT aDIGIT aLOWER_LETTER aUPPER_LETTER aLOWER_ROMAN aUPPER_ROMAN)), .val (.int t0_32)] [])
      refine Goes.step (fun _ k => XS.iconst X1.here hx rfl (hb hby at_45) k) ?_
      show Goes p e below s _ _ _ T1 (mkF m 46 #[.val (.int p1), .val (.int ((p1 &&& (2147483647 : Int32)) % (9 : Int32))), .val (.ref (f1 ((p1 &&& (2147483647 : Int32)) % (9 : Int32)) aSECTION aARTICLE aDECIMAL aEXHIBIT aDIGIT aLOWER_LETTER aUPPER_LETTER aLOWER_ROMAN aUPPER_ROMAN)), .val (.int t0_32)] [(.int (0 : Int32))])
      exact Goes.outN X1 hx hlk (t := .boolean) Bd.returns (by simp) (hb hby at_46) ⟨rfl, rfl, e1⟩ (by decide) (by decide)
  have B27 : ∀ (T : State), Stand p l e room_1 s m #[(.int p1)] below meth c T [] 0 0 → T.heap = h0 → ∀ (_ : True), Goes p e below s room_1.cells room_1.slots (PI h0 (f0_27 p1 aSECTION aARTICLE aDECIMAL aEXHIBIT aDIGIT aLOWER_LETTER aUPPER_LETTER aLOWER_ROMAN aUPPER_ROMAN kSECTION kARTICLE kEXHIBIT)) T (mkF m 27 #[.val (.int p1), .val (.int ((p1 &&& (2147483647 : Int32)) % (9 : Int32))), .val (.ref (f1 ((p1 &&& (2147483647 : Int32)) % (9 : Int32)) aSECTION aARTICLE aDECIMAL aEXHIBIT aDIGIT aLOWER_LETTER aUPPER_LETTER aLOWER_ROMAN aUPPER_ROMAN)), .unset] []) := by
    intro T X eT _
    refine Goes.step (fun _ k => XS.iconst X.here hx rfl (hb hby at_27) k) ?_
    show Goes p e below s _ _ _ T (mkF m 28 #[.val (.int p1), .val (.int ((p1 &&& (2147483647 : Int32)) % (9 : Int32))), .val (.ref (f1 ((p1 &&& (2147483647 : Int32)) % (9 : Int32)) aSECTION aARTICLE aDECIMAL aEXHIBIT aDIGIT aLOWER_LETTER aUPPER_LETTER aLOWER_ROMAN aUPPER_ROMAN)), .unset] [(.int (1 : Int32))])
    refine Goes.step (fun _ k => XS.goto X.here hx rfl (pc0 := 28) (pc' := 32) rfl (hb hby at_28) (by decide) (by decide) k) ?_
    show Goes p e below s _ _ _ T (mkF m 32 #[.val (.int p1), .val (.int ((p1 &&& (2147483647 : Int32)) % (9 : Int32))), .val (.ref (f1 ((p1 &&& (2147483647 : Int32)) % (9 : Int32)) aSECTION aARTICLE aDECIMAL aEXHIBIT aDIGIT aLOWER_LETTER aUPPER_LETTER aLOWER_ROMAN aUPPER_ROMAN)), .unset] [(.int (1 : Int32))])
    exact B32 T X eT (1 : Int32)
  show Goes p e below s room_1.cells room_1.slots (PI h0 (f0 p1 aSECTION aARTICLE aDECIMAL aEXHIBIT aDIGIT aLOWER_LETTER aUPPER_LETTER aLOWER_ROMAN aUPPER_ROMAN kSECTION kARTICLE kEXHIBIT)) s₁ (entryFrame m #[(.int p1)] maxLocals)
  refine Goes.step (fun t k => castTop (ef_0 m p1) k) ?_
  refine Goes.step (fun _ k => XS.iloadN X0.here hx rfl (hb hby at_0) rfl k) ?_
  show Goes p e below s _ _ _ s₁ (mkF m 1 #[.val (.int p1), .unset, .unset, .unset] [(.int p1)])
  refine Goes.step (fun _ k => X0.ldcInt hx hown (mvT hZ (hw _ (List.mem_of_getElem? (i := 0) rfl))) (g := (mkF m 1 #[.val (.int p1), .unset, .unset, .unset] [(.int p1)])) rfl (hb hby at_1) _ k) ?_
  show Goes p e below s _ _ _ s₁ (mkF m 3 #[.val (.int p1), .unset, .unset, .unset] [(.int (2147483647 : Int32)), (.int p1)])
  refine Goes.step (fun _ k => XS.iand X0.here hx rfl (hb hby at_3) rfl k) ?_
  show Goes p e below s _ _ _ s₁ (mkF m 4 #[.val (.int p1), .unset, .unset, .unset] [(.int (p1 &&& (2147483647 : Int32)))])
  refine Goes.step (fun _ k => XS.bipush X0.here hx rfl (hb hby at_4) k) ?_
  show Goes p e below s _ _ _ s₁ (mkF m 6 #[.val (.int p1), .unset, .unset, .unset] [(.int (9 : Int32)), (.int (p1 &&& (2147483647 : Int32)))])
  refine Goes.step (fun _ k => iremM X0 hx rfl (hb hby at_6) rfl (by decide) k) ?_
  show Goes p e below s _ _ _ s₁ (mkF m 7 #[.val (.int p1), .unset, .unset, .unset] [(.int ((p1 &&& (2147483647 : Int32)) % (9 : Int32)))])
  refine Goes.step (fun _ k => XS.istoreN X0.here hx rfl (hb hby at_7) rfl (l' := #[.val (.int p1), .val (.int ((p1 &&& (2147483647 : Int32)) % (9 : Int32))), .unset, .unset]) rfl k) ?_
  show Goes p e below s _ _ _ s₁ (mkF m 8 #[.val (.int p1), .val (.int ((p1 &&& (2147483647 : Int32)) % (9 : Int32))), .unset, .unset] [])
  refine Goes.step (fun _ k => XS.iloadN X0.here hx rfl (hb hby at_8) rfl k) ?_
  show Goes p e below s _ _ _ s₁ (mkF m 9 #[.val (.int p1), .val (.int ((p1 &&& (2147483647 : Int32)) % (9 : Int32))), .unset, .unset] [(.int ((p1 &&& (2147483647 : Int32)) % (9 : Int32)))])
  obtain ⟨T2, X2, e2, st2⟩ := callPure X0 hx hZ (y := (⟨"com/example/recital/recital/service/StyleHasKeywordPinLaw", "pick", "(I)Lcom/example/recital/recital/service/Markers$Style;"⟩ : MethodName)) hown (hw _ (List.mem_of_getElem? (i := 1) rfl)) (hw _ (List.mem_of_getElem? (i := 2) rfl)) (hw _ (List.mem_of_getElem? (i := 3) rfl)) (hw _ (List.mem_of_getElem? (i := 4) rfl)) (by decide) (W := 0) (argsL := [(.int ((p1 &&& (2147483647 : Int32)) % (9 : Int32)))]) (rest := []) (r := (.ref (f1 ((p1 &&& (2147483647 : Int32)) % (9 : Int32)) aSECTION aARTICLE aDECIMAL aEXHIBIT aDIGIT aLOWER_LETTER aUPPER_LETTER aLOWER_ROMAN aUPPER_ROMAN))) (fun _ _ _ q => q) (rm1 l Z a0 hw [] ((p1 &&& (2147483647 : Int32)) % (9 : Int32)) aSECTION aARTICLE aDECIMAL aEXHIBIT aDIGIT aLOWER_LETTER aUPPER_LETTER aLOWER_ROMAN aUPPER_ROMAN h0 S_SECTION S_ARTICLE S_DECIMAL S_EXHIBIT S_DIGIT S_LOWER_LETTER S_UPPER_LETTER S_LOWER_ROMAN S_UPPER_ROMAN) (by decide) (by decide) (by decide) (by decide) e0 (g := (mkF m 9 #[.val (.int p1), .val (.int ((p1 &&& (2147483647 : Int32)) % (9 : Int32))), .unset, .unset] [(.int ((p1 &&& (2147483647 : Int32)) % (9 : Int32)))])) rfl (by rw [hml]; rfl) (lenOf pd_0_0 rfl) rfl (by show 2 * 0 + _ ≤ _; exact Nat.le_of_eq rfl) (hb hby at_9)
  refine Goes.step st2 ?_
  show Goes p e below s _ _ _ T2 (mkF m 12 #[.val (.int p1), .val (.int ((p1 &&& (2147483647 : Int32)) % (9 : Int32))), .unset, .unset] [(.ref (f1 ((p1 &&& (2147483647 : Int32)) % (9 : Int32)) aSECTION aARTICLE aDECIMAL aEXHIBIT aDIGIT aLOWER_LETTER aUPPER_LETTER aLOWER_ROMAN aUPPER_ROMAN))])
  refine Goes.step (fun _ k => XS.astoreN X2.here hx rfl (hb hby at_12) rfl rfl (l' := #[.val (.int p1), .val (.int ((p1 &&& (2147483647 : Int32)) % (9 : Int32))), .val (.ref (f1 ((p1 &&& (2147483647 : Int32)) % (9 : Int32)) aSECTION aARTICLE aDECIMAL aEXHIBIT aDIGIT aLOWER_LETTER aUPPER_LETTER aLOWER_ROMAN aUPPER_ROMAN)), .unset]) rfl k) ?_
  show Goes p e below s _ _ _ T2 (mkF m 13 #[.val (.int p1), .val (.int ((p1 &&& (2147483647 : Int32)) % (9 : Int32))), .val (.ref (f1 ((p1 &&& (2147483647 : Int32)) % (9 : Int32)) aSECTION aARTICLE aDECIMAL aEXHIBIT aDIGIT aLOWER_LETTER aUPPER_LETTER aLOWER_ROMAN aUPPER_ROMAN)), .unset] [])
  refine Goes.step (fun _ k => XS.iloadN X2.here hx rfl (hb hby at_13) rfl k) ?_
  show Goes p e below s _ _ _ T2 (mkF m 14 #[.val (.int p1), .val (.int ((p1 &&& (2147483647 : Int32)) % (9 : Int32))), .val (.ref (f1 ((p1 &&& (2147483647 : Int32)) % (9 : Int32)) aSECTION aARTICLE aDECIMAL aEXHIBIT aDIGIT aLOWER_LETTER aUPPER_LETTER aLOWER_ROMAN aUPPER_ROMAN)), .unset] [(.int ((p1 &&& (2147483647 : Int32)) % (9 : Int32)))])
  refine Goes.ite (Q := PI h0) (fun hc14 => ?_) (fun hc14 => ?_)
  · refine Goes.step (fun _ k => XS.ifYes X2.here hx rfl (pc0 := 14) (pc' := 27) rfl (hb hby at_14) rfl ((if0 _ _).trans (teq hc14).1) (by decide) (by decide) k) ?_
    show Goes p e below s _ _ _ T2 (mkF m 27 #[.val (.int p1), .val (.int ((p1 &&& (2147483647 : Int32)) % (9 : Int32))), .val (.ref (f1 ((p1 &&& (2147483647 : Int32)) % (9 : Int32)) aSECTION aARTICLE aDECIMAL aEXHIBIT aDIGIT aLOWER_LETTER aUPPER_LETTER aLOWER_ROMAN aUPPER_ROMAN)), .unset] [])
    exact B27 T2 X2 e2 trivial
  · refine Goes.step (fun _ k => XS.ifNo X2.here hx rfl (hb hby at_14) rfl ((if0 _ _).trans (feq hc14).1) k) ?_
    show Goes p e below s _ _ _ T2 (mkF m 17 #[.val (.int p1), .val (.int ((p1 &&& (2147483647 : Int32)) % (9 : Int32))), .val (.ref (f1 ((p1 &&& (2147483647 : Int32)) % (9 : Int32)) aSECTION aARTICLE aDECIMAL aEXHIBIT aDIGIT aLOWER_LETTER aUPPER_LETTER aLOWER_ROMAN aUPPER_ROMAN)), .unset] [])
    refine Goes.step (fun _ k => XS.iloadN X2.here hx rfl (hb hby at_17) rfl k) ?_
    show Goes p e below s _ _ _ T2 (mkF m 18 #[.val (.int p1), .val (.int ((p1 &&& (2147483647 : Int32)) % (9 : Int32))), .val (.ref (f1 ((p1 &&& (2147483647 : Int32)) % (9 : Int32)) aSECTION aARTICLE aDECIMAL aEXHIBIT aDIGIT aLOWER_LETTER aUPPER_LETTER aLOWER_ROMAN aUPPER_ROMAN)), .unset] [(.int ((p1 &&& (2147483647 : Int32)) % (9 : Int32)))])
    refine Goes.step (fun _ k => XS.iconst X2.here hx rfl (hb hby at_18) k) ?_
    show Goes p e below s _ _ _ T2 (mkF m 19 #[.val (.int p1), .val (.int ((p1 &&& (2147483647 : Int32)) % (9 : Int32))), .val (.ref (f1 ((p1 &&& (2147483647 : Int32)) % (9 : Int32)) aSECTION aARTICLE aDECIMAL aEXHIBIT aDIGIT aLOWER_LETTER aUPPER_LETTER aLOWER_ROMAN aUPPER_ROMAN)), .unset] [(.int (1 : Int32)), (.int ((p1 &&& (2147483647 : Int32)) % (9 : Int32)))])
    refine Goes.ite (Q := PI h0) (fun hc19 => ?_) (fun hc19 => ?_)
    · refine Goes.step (fun _ k => XS.icmpYes X2.here hx rfl (pc0 := 19) (pc' := 27) rfl (hb hby at_19) rfl (teq hc19).1 (by decide) (by decide) k) ?_
      show Goes p e below s _ _ _ T2 (mkF m 27 #[.val (.int p1), .val (.int ((p1 &&& (2147483647 : Int32)) % (9 : Int32))), .val (.ref (f1 ((p1 &&& (2147483647 : Int32)) % (9 : Int32)) aSECTION aARTICLE aDECIMAL aEXHIBIT aDIGIT aLOWER_LETTER aUPPER_LETTER aLOWER_ROMAN aUPPER_ROMAN)), .unset] [])
      exact B27 T2 X2 e2 trivial
    · refine Goes.step (fun _ k => XS.icmpNo X2.here hx rfl (hb hby at_19) rfl (feq hc19).1 k) ?_
      show Goes p e below s _ _ _ T2 (mkF m 22 #[.val (.int p1), .val (.int ((p1 &&& (2147483647 : Int32)) % (9 : Int32))), .val (.ref (f1 ((p1 &&& (2147483647 : Int32)) % (9 : Int32)) aSECTION aARTICLE aDECIMAL aEXHIBIT aDIGIT aLOWER_LETTER aUPPER_LETTER aLOWER_ROMAN aUPPER_ROMAN)), .unset] [])
      refine Goes.step (fun _ k => XS.iloadN X2.here hx rfl (hb hby at_22) rfl k) ?_
      show Goes p e below s _ _ _ T2 (mkF m 23 #[.val (.int p1), .val (.int ((p1 &&& (2147483647 : Int32)) % (9 : Int32))), .val (.ref (f1 ((p1 &&& (2147483647 : Int32)) % (9 : Int32)) aSECTION aARTICLE aDECIMAL aEXHIBIT aDIGIT aLOWER_LETTER aUPPER_LETTER aLOWER_ROMAN aUPPER_ROMAN)), .unset] [(.int ((p1 &&& (2147483647 : Int32)) % (9 : Int32)))])
      refine Goes.step (fun _ k => XS.iconst X2.here hx rfl (hb hby at_23) k) ?_
      show Goes p e below s _ _ _ T2 (mkF m 24 #[.val (.int p1), .val (.int ((p1 &&& (2147483647 : Int32)) % (9 : Int32))), .val (.ref (f1 ((p1 &&& (2147483647 : Int32)) % (9 : Int32)) aSECTION aARTICLE aDECIMAL aEXHIBIT aDIGIT aLOWER_LETTER aUPPER_LETTER aLOWER_ROMAN aUPPER_ROMAN)), .unset] [(.int (3 : Int32)), (.int ((p1 &&& (2147483647 : Int32)) % (9 : Int32)))])
      refine Goes.ite (Q := PI h0) (fun hc24 => ?_) (fun hc24 => ?_)
      · refine Goes.step (fun _ k => XS.icmpNo X2.here hx rfl (hb hby at_24) rfl (teq hc24).2 k) ?_
        show Goes p e below s _ _ _ T2 (mkF m 27 #[.val (.int p1), .val (.int ((p1 &&& (2147483647 : Int32)) % (9 : Int32))), .val (.ref (f1 ((p1 &&& (2147483647 : Int32)) % (9 : Int32)) aSECTION aARTICLE aDECIMAL aEXHIBIT aDIGIT aLOWER_LETTER aUPPER_LETTER aLOWER_ROMAN aUPPER_ROMAN)), .unset] [])
        exact B27 T2 X2 e2 trivial
      · refine Goes.step (fun _ k => XS.icmpYes X2.here hx rfl (pc0 := 24) (pc' := 31) rfl (hb hby at_24) rfl (feq hc24).2 (by decide) (by decide) k) ?_
        show Goes p e below s _ _ _ T2 (mkF m 31 #[.val (.int p1), .val (.int ((p1 &&& (2147483647 : Int32)) % (9 : Int32))), .val (.ref (f1 ((p1 &&& (2147483647 : Int32)) % (9 : Int32)) aSECTION aARTICLE aDECIMAL aEXHIBIT aDIGIT aLOWER_LETTER aUPPER_LETTER aLOWER_ROMAN aUPPER_ROMAN)), .unset] [])
        refine Goes.step (fun _ k => XS.iconst X2.here hx rfl (hb hby at_31) k) ?_
        show Goes p e below s _ _ _ T2 (mkF m 32 #[.val (.int p1), .val (.int ((p1 &&& (2147483647 : Int32)) % (9 : Int32))), .val (.ref (f1 ((p1 &&& (2147483647 : Int32)) % (9 : Int32)) aSECTION aARTICLE aDECIMAL aEXHIBIT aDIGIT aLOWER_LETTER aUPPER_LETTER aLOWER_ROMAN aUPPER_ROMAN)), .unset] [(.int (0 : Int32))])
        exact B32 T2 X2 e2 (0 : Int32)
theorem own_law (p1 : Int32) (aSECTION : Addr) (aARTICLE : Addr) (aDECIMAL : Addr) (aEXHIBIT : Addr) (aDIGIT : Addr) (aLOWER_LETTER : Addr) (aUPPER_LETTER : Addr) (aLOWER_ROMAN : Addr) (aUPPER_ROMAN : Addr) (kSECTION : Addr) (kARTICLE : Addr) (kEXHIBIT : Addr) (n1 : aSECTION ≠ aDECIMAL) (n2 : aARTICLE ≠ aDECIMAL) (n3 : aEXHIBIT ≠ aDECIMAL) : f0 p1 aSECTION aARTICLE aDECIMAL aEXHIBIT aDIGIT aLOWER_LETTER aUPPER_LETTER aLOWER_ROMAN aUPPER_ROMAN kSECTION kARTICLE kEXHIBIT = 1 := by
  simp only [f0, f0_27, f0_32]
  generalize (p1 &&& (2147483647 : Int32)) % (9 : Int32) = i
  simp only [f1, f2, f2_18, own_o]
  by_cases h0 : i = 0
  · simp [h0, n1]
  by_cases h1 : i = 1
  · simp [h1, n2]
  by_cases h2 : i = 2
  · simp [h2]
  by_cases h3 : i = 3
  · simp [h3, n3]
  simp [h0, h1, h2, h3]
set_option maxRecDepth 65536 in
set_option maxHeartbeats 40000000 in
theorem comes_1 {Post : Tables → Env → Array Value → State → Outcome → State → Prop} (hpost : ∀ tb e args s v u, (limb_1_1.after args s (.returned v) u = true ∧ limb_1_2.after args s (.returned v) u = true ∧ True) → FrameEnd s (.returned v) u (Jvm.fieldLocs frame_1_writes args s ++ Jvm.arrayLocs frame_1_arrays args s ++ Jvm.staticLocs frame_1_statics s) 0 0 → Post tb e args s (.returned v) u) :
    ArmFor flags0 classFile x code maxLocals ret World_1 tables_1 room_1 Calls_1 rest_1 Pre_1 Post := by
  intro l hfl _ _ p e ha hc hk s m args below hf hA hF happ hP
  obtain ⟨hcalls, hrest, hpre⟩ := hP
  obtain ⟨-, -, -, hnamed, -, -, -, hat⟩ := (Spec.applies_iff hf).mp happ
  obtain ⟨hg, hn⟩ := and_e (Cond.before_iff.mp (show (Jvm.Cond.and given_1 narrow_1).before args s = true from hpre))
  obtain ⟨hcnt, g0⟩ := and_e hg
  have i0 := g0
  obtain ⟨w0, rfl⟩ : ∃ w0 : Value, args = #[w0] := by
    have hs : args.size = 1 := by simpa [Cond.value, given_1] using hcnt
    obtain ⟨L⟩ := args
    match L, hs with
    | [w0], _ => exact ⟨w0, rfl⟩
  have hw := fun d (hd : d ∈ tables_1) => atoms_spec (ws := Jvm.Cond.code x code maxLocals ret :: tables_1) hat d (List.mem_cons_of_mem _ hd)
  obtain ⟨z0, e0⟩ := is_v i0
  obtain rfl : w0 = (.int z0) := Option.some.inj e0
  have m0 := hn
  obtain ⟨n0, m1⟩ := and_e m0
  obtain ⟨n1, m2⟩ := and_e m1
  obtain ⟨n2, m3⟩ := and_e m2
  obtain ⟨n3, m4⟩ := and_e m3
  obtain ⟨n4, m5⟩ := and_e m4
  obtain ⟨n5, m6⟩ := and_e m5
  obtain ⟨n6, m7⟩ := and_e m6
  obtain ⟨n7, m8⟩ := and_e m7
  obtain ⟨n8, m9⟩ := and_e m8
  obtain ⟨n9, m10⟩ := and_e m9
  obtain ⟨n10, m11⟩ := and_e m10
  obtain ⟨n11, m12⟩ := and_e m11
  obtain ⟨n12, m13⟩ := and_e m12
  obtain ⟨n13, m14⟩ := and_e m13
  obtain ⟨n14, m15⟩ := and_e m14
  obtain ⟨n15, m16⟩ := and_e m15
  obtain ⟨n16, m17⟩ := and_e m16
  obtain ⟨n17, m18⟩ := and_e m17
  obtain ⟨n18, m19⟩ := and_e m18
  obtain ⟨n19, m20⟩ := and_e m19
  obtain ⟨n20, m21⟩ := and_e m20
  obtain ⟨n21, m22⟩ := and_e m21
  obtain ⟨n22, m23⟩ := and_e m22
  obtain ⟨n23, m24⟩ := and_e m23
  have n24 := m24
  obtain ⟨aSECTION, ev_SECTION, E_SECTION, S_SECTION⟩ := own_static n0 (hw _ (List.mem_of_getElem? (i := 6) rfl)) (hw _ (List.mem_of_getElem? (i := 7) rfl))
  obtain ⟨kSECTION, ek_SECTION, -, -⟩ := own_static n1 (hw _ (List.mem_of_getElem? (i := 15) rfl)) (hw _ (List.mem_of_getElem? (i := 16) rfl))
  obtain ⟨aDECIMAL, ev_DECIMAL, E_DECIMAL, S_DECIMAL⟩ := own_static n3 (hw _ (List.mem_of_getElem? (i := 6) rfl)) (hw _ (List.mem_of_getElem? (i := 18) rfl))
  obtain ⟨aEXHIBIT, ev_EXHIBIT, E_EXHIBIT, S_EXHIBIT⟩ := own_static n6 (hw _ (List.mem_of_getElem? (i := 6) rfl)) (hw _ (List.mem_of_getElem? (i := 20) rfl))
  obtain ⟨kEXHIBIT, ek_EXHIBIT, -, -⟩ := own_static n7 (hw _ (List.mem_of_getElem? (i := 15) rfl)) (hw _ (List.mem_of_getElem? (i := 21) rfl))
  obtain ⟨aARTICLE, ev_ARTICLE, E_ARTICLE, S_ARTICLE⟩ := own_static n11 (hw _ (List.mem_of_getElem? (i := 6) rfl)) (hw _ (List.mem_of_getElem? (i := 24) rfl))
  obtain ⟨kARTICLE, ek_ARTICLE, -, -⟩ := own_static n12 (hw _ (List.mem_of_getElem? (i := 15) rfl)) (hw _ (List.mem_of_getElem? (i := 25) rfl))
  obtain ⟨aLOWER_ROMAN, ev_LOWER_ROMAN, E_LOWER_ROMAN, S_LOWER_ROMAN⟩ := own_static n15 (hw _ (List.mem_of_getElem? (i := 6) rfl)) (hw _ (List.mem_of_getElem? (i := 27) rfl))
  obtain ⟨aDIGIT, ev_DIGIT, E_DIGIT, S_DIGIT⟩ := own_static n17 (hw _ (List.mem_of_getElem? (i := 6) rfl)) (hw _ (List.mem_of_getElem? (i := 29) rfl))
  obtain ⟨aUPPER_ROMAN, ev_UPPER_ROMAN, E_UPPER_ROMAN, S_UPPER_ROMAN⟩ := own_static n19 (hw _ (List.mem_of_getElem? (i := 6) rfl)) (hw _ (List.mem_of_getElem? (i := 31) rfl))
  obtain ⟨aUPPER_LETTER, ev_UPPER_LETTER, E_UPPER_LETTER, S_UPPER_LETTER⟩ := own_static n21 (hw _ (List.mem_of_getElem? (i := 6) rfl)) (hw _ (List.mem_of_getElem? (i := 33) rfl))
  obtain ⟨aLOWER_LETTER, ev_LOWER_LETTER, E_LOWER_LETTER, S_LOWER_LETTER⟩ := own_static n23 (hw _ (List.mem_of_getElem? (i := 6) rfl)) (hw _ (List.mem_of_getElem? (i := 35) rfl))
  have F_SECTION := own_fieldR n2 ev_SECTION ek_SECTION
  have O_SECTION := own_fieldI n4 ev_SECTION
  have O_DECIMAL := own_fieldI n5 ev_DECIMAL
  have F_EXHIBIT := own_fieldR n8 ev_EXHIBIT ek_EXHIBIT
  have O_EXHIBIT := own_fieldI n9 ev_EXHIBIT
  have F_DECIMAL := own_fieldR n10 ev_DECIMAL ek_SECTION
  have F_ARTICLE := own_fieldR n13 ev_ARTICLE ek_ARTICLE
  have O_ARTICLE := own_fieldI n14 ev_ARTICLE
  have F_LOWER_ROMAN := own_fieldN n16 ev_LOWER_ROMAN
  have F_DIGIT := own_fieldN n18 ev_DIGIT
  have F_UPPER_ROMAN := own_fieldN n20 ev_UPPER_ROMAN
  have F_UPPER_LETTER := own_fieldN n22 ev_UPPER_LETTER
  have F_LOWER_LETTER := own_fieldN n24 ev_LOWER_LETTER
  obtain ⟨n, o, h1, h2, h3, v, L, rfl, ⟨rfl, rfl, hh⟩, hq⟩ := rm0 l s _ hw tables_1 z0 aSECTION aARTICLE aDECIMAL aEXHIBIT aDIGIT aLOWER_LETTER aUPPER_LETTER aLOWER_ROMAN aUPPER_ROMAN kSECTION kARTICLE kEXHIBIT s.heap S_SECTION S_ARTICLE S_DECIMAL S_EXHIBIT S_DIGIT S_LOWER_LETTER S_UPPER_LETTER S_LOWER_ROMAN S_UPPER_ROMAN E_SECTION E_ARTICLE E_DECIMAL E_EXHIBIT E_DIGIT E_LOWER_LETTER E_UPPER_LETTER E_LOWER_ROMAN E_UPPER_ROMAN F_SECTION F_ARTICLE F_DECIMAL F_EXHIBIT F_DIGIT F_LOWER_LETTER F_UPPER_LETTER F_LOWER_ROMAN F_UPPER_ROMAN p e ha hc hk s m _ below hf ((Spec.applies_iff_loose hf).mp happ).1 ⟨rfl, State.Warmed39.refl s, rfl⟩ trivial
  have hlaw := own_law z0 aSECTION aARTICLE aDECIMAL aEXHIBIT aDIGIT aLOWER_LETTER aUPPER_LETTER aLOWER_ROMAN aUPPER_ROMAN kSECTION kARTICLE kEXHIBIT (Fld.ne O_SECTION O_DECIMAL (by decide)) (Fld.ne O_ARTICLE O_DECIMAL (by decide)) (Fld.ne O_EXHIBIT O_DECIMAL (by decide))
  refine ⟨n, _, h1, h2, h3, hpost _ _ _ _ _ _ ⟨Cond.after_iff.mpr rfl, Cond.after_iff.mpr (eq_i res_at (Term.int_eval (1)) (by rw [hlaw])), trivial⟩ ⟨hq.1, hq.2.1, (hq.2.2.sift fun y hy => by cases hy).mono (by decide) (by decide)⟩⟩
theorem main_1_1 : Claimed_1_1 := comes_1 fun _ _ _ _ _ _ h hF => ⟨h.1, hF⟩
theorem main_1_2 : Claimed_1_2 := comes_1 fun _ _ _ _ _ _ h hF => ⟨h.2.1, hF⟩
end Jvm.Pilot.@@N@@
namespace Jvm.Pilot.@@N@@
open Jvm Jvm.ClassFile Sem Op Lib Jvm.Free Jvm.Stand Jvm.Pilot.@@N@@.Jvm.D
/-! MADE BY PROGRAM (witnessworld.py) out of the Statement's table words and the real class files: 11 classes; the members and pool entries that the words name. The judged class is class 1, her method 1. -/
namespace start1
open Jvm.ClassFile
def u (s : String) : CpInfo := .utf8 (stringToUtf16 s)
/-- a pool by its gaps: so many unusable entries, then the entry; so many at the end -/
def gap : Nat → List CpInfo → List CpInfo
  | 0, r => r
  | n + 1, r => .unusable :: gap n r
def poolList (es : List (Nat × CpInfo)) (last : Nat) : List CpInfo := es.foldr (fun e r => gap e.1 (e.2 :: r)) (gap last [])
def pool (es : List (Nat × CpInfo)) (last : Nat) : Array CpInfo := ⟨poolList es last⟩
def fileOf (pool : Array CpInfo) (this : Nat) (attrs : Array Attribute := #[]) (ms : Array MethodInfo := #[]) (fl : Nat := 33) (sup : Nat := 0) (ifs : Array Nat := #[]) (fds : Array FieldInfo := #[]) : ClassFile where
  minorVersion := 0
  majorVersion := 65
  constantPool := pool
  accessFlags := fl
  thisClass := this
  superClass := sup
  interfaces := ifs
  fields := fds
  methods := ms
  attributes := attrs
def plain (name : String) (sup : Option ClassId) : Class where
  name := name
  kind := .ordinary
  loader := none
  accessFlags := 33
  super := sup
  interfaces := #[]
  cf := none
  fields := #[]
  methods := #[]
  instanceTypes := #[]
  staticTypes := #[]
  resolved := #[]
  callSites := []
  init := .initialized
  statics := none
  mirror := none

def pool0 : Array CpInfo := pool [(5, u "<init>"), (0, u "()V"), (1, .class_ 10), (1, u "java/lang/Object")] 113

def k0m0 : Method := { name := "<init>", desc := "()V", sig := { parameters := [], returnType := none }, accessFlags := 1, code := none }
/-- java/lang/Object -/
def k0 : Class := { plain "java/lang/Object" none with
  accessFlags := 33
  interfaces := #[]
  cf := some (fileOf pool0 8 #[] #[{ accessFlags := 1, nameIndex := 5, descriptorIndex := 6, attributes := #[] }] 33 0 #[] #[])
  fields := #[]
  methods := #[k0m0]
  instanceTypes := #[]
  staticTypes := #[]
  resolved := Array.replicate 124 none
  statics := none }

def pool1 : Array CpInfo := pool [(2, .class_ 4), (1, u "java/lang/Object"), (0, u "<init>"), (0, u "()V"), (0, .integer 2147483647), (0, .methodref 9 10), (0, .class_ 11), (0, .nameAndType 12 13), (0, u "com/example/recital/recital/service/StyleHasKeywordPinLaw"), (0, u "pick"), (0, u "(I)Lcom/example/recital/recital/service/Markers$Style;"), (0, .methodref 15 16), (0, .class_ 17), (0, .nameAndType 18 19), (0, u "com/example/recital/recital/service/Markers$Style"), (0, u "hasKeyword"), (0, u "()Z"), (0, .fieldref 15 21), (0, .nameAndType 22 23), (0, u "SECTION"), (0, u "Lcom/example/recital/recital/service/Markers$Style;"), (0, .fieldref 15 25), (0, .nameAndType 26 23), (0, u "ARTICLE"), (0, .fieldref 15 28), (0, .nameAndType 29 23), (0, u "DECIMAL"), (0, .fieldref 15 31), (0, .nameAndType 32 23), (0, u "EXHIBIT"), (0, .fieldref 15 34), (0, .nameAndType 35 23), (0, u "DIGIT"), (0, .fieldref 15 37), (0, .nameAndType 38 23), (0, u "LOWER_LETTER"), (0, .fieldref 15 40), (0, .nameAndType 41 23), (0, u "UPPER_LETTER"), (0, .fieldref 15 43), (0, .nameAndType 44 23), (0, u "LOWER_ROMAN"), (0, .fieldref 15 46), (0, .nameAndType 47 23), (0, u "UPPER_ROMAN"), (2, u "law"), (0, u "(I)Z")] 7

def k1m0 : Method := { name := "<init>", desc := "()V", sig := { parameters := [], returnType := none }, accessFlags := 2, code := none }
def k1c1 : Code := { maxStack := 2, maxLocals := 4, code := code, exceptionTable := #[], attributes := #[] }
def k1m1 : Method := { name := "law", desc := "(I)Z", sig := { parameters := [.int], returnType := some .boolean }, accessFlags := 9, code := some k1c1 }
def k1c2 : Code := { maxStack := 2, maxLocals := 1, code := method_3_code, exceptionTable := #[], attributes := #[] }
def k1m2 : Method := { name := "pick", desc := "(I)Lcom/example/recital/recital/service/Markers$Style;", sig := { parameters := [.int], returnType := some (.object "com/example/recital/recital/service/Markers$Style") }, accessFlags := 10, code := some k1c2 }
/-- com/example/recital/recital/service/StyleHasKeywordPinLaw -/
def k1 : Class := { plain "com/example/recital/recital/service/StyleHasKeywordPinLaw" (some 0) with
  accessFlags := 49
  interfaces := #[]
  cf := some (fileOf pool1 9 #[] #[{ accessFlags := 2, nameIndex := 5, descriptorIndex := 6, attributes := #[] }, { accessFlags := 9, nameIndex := 50, descriptorIndex := 51, attributes := #[] }, { accessFlags := 10, nameIndex := 12, descriptorIndex := 13, attributes := #[] }] 49 2 #[] #[])
  fields := #[]
  methods := #[k1m0, k1m1, k1m2]
  instanceTypes := #[]
  staticTypes := #[]
  resolved := Array.replicate 59 none
  statics := none }

def pool2 : Array CpInfo := pool [(1, .class_ 2), (0, u "java/lang/constant/Constable"), (0, .class_ 4), (0, u "java/lang/Object")] 6

/-- java/lang/constant/Constable -/
def k2 : Class := { plain "java/lang/constant/Constable" (some 0) with
  accessFlags := 1537
  interfaces := #[]
  cf := some (fileOf pool2 1 #[] #[] 1537 3 #[] #[])
  fields := #[]
  methods := #[]
  instanceTypes := #[]
  staticTypes := #[]
  resolved := Array.replicate 11 none
  statics := none }

def pool3 : Array CpInfo := pool [(1, .class_ 2), (0, u "java/lang/Comparable"), (0, .class_ 4), (0, u "java/lang/Object")] 7

/-- java/lang/Comparable -/
def k3 : Class := { plain "java/lang/Comparable" (some 0) with
  accessFlags := 1537
  interfaces := #[]
  cf := some (fileOf pool3 1 #[] #[] 1537 3 #[] #[])
  fields := #[]
  methods := #[]
  instanceTypes := #[]
  staticTypes := #[]
  resolved := Array.replicate 12 none
  statics := none }

def pool4 : Array CpInfo := pool [(1, .class_ 2), (0, u "java/io/Serializable"), (0, .class_ 4), (0, u "java/lang/Object")] 2

/-- java/io/Serializable -/
def k4 : Class := { plain "java/io/Serializable" (some 0) with
  accessFlags := 1537
  interfaces := #[]
  cf := some (fileOf pool4 1 #[] #[] 1537 3 #[] #[])
  fields := #[]
  methods := #[]
  instanceTypes := #[]
  staticTypes := #[]
  resolved := Array.replicate 7 none
  statics := none }

def pool5 : Array CpInfo := pool [(2, .class_ 4), (1, u "java/lang/Enum"), (0, u "name"), (0, u "Ljava/lang/String;"), (2, u "ordinal"), (0, u "I"), (1, .class_ 14), (1, u "java/lang/Object"), (4, u "hash"), (86, .class_ 108), (1, u "java/lang/Enum$EnumDesc"), (2, .class_ 112), (0, u "java/lang/constant/Constable"), (0, .class_ 114), (0, u "java/lang/Comparable"), (0, .class_ 116), (0, u "java/io/Serializable")] 87

/-- java/lang/Enum -/
def k5 : Class := { plain "java/lang/Enum" (some 0) with
  accessFlags := 1057
  interfaces := #[2, 3, 4]
  cf := some (fileOf pool5 2 #[.nestMembers #[106]] #[] 1057 12 #[111, 113, 115] #[{ accessFlags := 18, nameIndex := 5, descriptorIndex := 6, attributes := #[] }, { accessFlags := 18, nameIndex := 9, descriptorIndex := 10, attributes := #[] }, { accessFlags := 2, nameIndex := 19, descriptorIndex := 10, attributes := #[] }])
  fields := #[{ name := "name", type := (.object "java/lang/String"), accessFlags := 18, slot := 0, constantValue := 0 }, { name := "ordinal", type := .int, accessFlags := 18, slot := 1, constantValue := 0 }, { name := "hash", type := .int, accessFlags := 2, slot := 2, constantValue := 0 }]
  methods := #[]
  instanceTypes := #[(.object "java/lang/String"), .int, .int]
  staticTypes := #[]
  resolved := Array.replicate 204 none
  statics := none }

def pool6 : Array CpInfo := pool [(1, .class_ 2), (0, u "com/example/recital/recital/service/Markers$Style"), (2, u "SECTION"), (0, u "Lcom/example/recital/recital/service/Markers$Style;"), (2, u "ARTICLE"), (0, .fieldref 1 11), (0, .nameAndType 12 6), (0, u "DECIMAL"), (2, u "EXHIBIT"), (2, u "DIGIT"), (2, u "LOWER_LETTER"), (2, u "UPPER_LETTER"), (2, u "LOWER_ROMAN"), (2, u "UPPER_ROMAN"), (2, u "$VALUES"), (0, u "[Lcom/example/recital/recital/service/Markers$Style;"), (6, .class_ 43), (1, u "java/lang/Enum"), (6, .fieldref 1 51), (0, .nameAndType 52 53), (0, u "heading"), (0, u "Lcom/example/recital/recital/model/Heading$Kind;"), (31, u "hasKeyword"), (0, u "()Z"), (8, .class_ 96), (0, u "com/example/recital/recital/service/Markers")] 5

def k6c0 : Code := { maxStack := 2, maxLocals := 1, code := prog_58_method_4_code, exceptionTable := #[], attributes := #[] }
def k6m0 : Method := { name := "hasKeyword", desc := "()Z", sig := { parameters := [], returnType := some .boolean }, accessFlags := 0, code := some k6c0 }
/-- com/example/recital/recital/service/Markers$Style -/
def k6 : Class := { plain "com/example/recital/recital/service/Markers$Style" (some 5) with
  accessFlags := 16432
  interfaces := #[]
  cf := some (fileOf pool6 1 #[.nestHost 95] #[{ accessFlags := 0, nameIndex := 85, descriptorIndex := 86, attributes := #[] }] 16432 41 #[] #[{ accessFlags := 16409, nameIndex := 5, descriptorIndex := 6, attributes := #[] }, { accessFlags := 16409, nameIndex := 9, descriptorIndex := 6, attributes := #[] }, { accessFlags := 16409, nameIndex := 12, descriptorIndex := 6, attributes := #[] }, { accessFlags := 16409, nameIndex := 15, descriptorIndex := 6, attributes := #[] }, { accessFlags := 16409, nameIndex := 18, descriptorIndex := 6, attributes := #[] }, { accessFlags := 16409, nameIndex := 21, descriptorIndex := 6, attributes := #[] }, { accessFlags := 16409, nameIndex := 24, descriptorIndex := 6, attributes := #[] }, { accessFlags := 16409, nameIndex := 27, descriptorIndex := 6, attributes := #[] }, { accessFlags := 16409, nameIndex := 30, descriptorIndex := 6, attributes := #[] }, { accessFlags := 16, nameIndex := 52, descriptorIndex := 53, attributes := #[] }, { accessFlags := 4122, nameIndex := 33, descriptorIndex := 34, attributes := #[] }])
  fields := #[{ name := "SECTION", type := (.object "com/example/recital/recital/service/Markers$Style"), accessFlags := 16409, slot := 0, constantValue := 0 }, { name := "ARTICLE", type := (.object "com/example/recital/recital/service/Markers$Style"), accessFlags := 16409, slot := 1, constantValue := 0 }, { name := "DECIMAL", type := (.object "com/example/recital/recital/service/Markers$Style"), accessFlags := 16409, slot := 2, constantValue := 0 }, { name := "EXHIBIT", type := (.object "com/example/recital/recital/service/Markers$Style"), accessFlags := 16409, slot := 3, constantValue := 0 }, { name := "DIGIT", type := (.object "com/example/recital/recital/service/Markers$Style"), accessFlags := 16409, slot := 4, constantValue := 0 }, { name := "LOWER_LETTER", type := (.object "com/example/recital/recital/service/Markers$Style"), accessFlags := 16409, slot := 5, constantValue := 0 }, { name := "UPPER_LETTER", type := (.object "com/example/recital/recital/service/Markers$Style"), accessFlags := 16409, slot := 6, constantValue := 0 }, { name := "LOWER_ROMAN", type := (.object "com/example/recital/recital/service/Markers$Style"), accessFlags := 16409, slot := 7, constantValue := 0 }, { name := "UPPER_ROMAN", type := (.object "com/example/recital/recital/service/Markers$Style"), accessFlags := 16409, slot := 8, constantValue := 0 }, { name := "heading", type := (.object "com/example/recital/recital/model/Heading$Kind"), accessFlags := 16, slot := 3, constantValue := 0 }, { name := "$VALUES", type := (.array (.object "com/example/recital/recital/service/Markers$Style")), accessFlags := 4122, slot := 9, constantValue := 0 }]
  methods := #[k6m0]
  instanceTypes := #[(.object "java/lang/String"), .int, .int, (.object "com/example/recital/recital/model/Heading$Kind")]
  staticTypes := #[(.object "com/example/recital/recital/service/Markers$Style"), (.object "com/example/recital/recital/service/Markers$Style"), (.object "com/example/recital/recital/service/Markers$Style"), (.object "com/example/recital/recital/service/Markers$Style"), (.object "com/example/recital/recital/service/Markers$Style"), (.object "com/example/recital/recital/service/Markers$Style"), (.object "com/example/recital/recital/service/Markers$Style"), (.object "com/example/recital/recital/service/Markers$Style"), (.object "com/example/recital/recital/service/Markers$Style"), (.array (.object "com/example/recital/recital/service/Markers$Style"))]
  resolved := Array.replicate 102 none
  statics := some 0 }

def pool7 : Array CpInfo := pool [(1, .class_ 2), (0, u "com/example/recital/recital/model/Heading$Kind"), (2, u "ARTICLE"), (0, u "Lcom/example/recital/recital/model/Heading$Kind;"), (2, u "SECTION"), (2, u "EXHIBIT"), (2, u "$VALUES"), (0, u "[Lcom/example/recital/recital/model/Heading$Kind;"), (6, .class_ 25), (1, u "java/lang/Enum"), (26, .class_ 53), (0, u "com/example/recital/recital/model/Heading")] 2

/-- com/example/recital/recital/model/Heading$Kind -/
def k7 : Class := { plain "com/example/recital/recital/model/Heading$Kind" (some 5) with
  accessFlags := 16433
  interfaces := #[]
  cf := some (fileOf pool7 1 #[.nestHost 52] #[] 16433 23 #[] #[{ accessFlags := 16409, nameIndex := 5, descriptorIndex := 6, attributes := #[] }, { accessFlags := 16409, nameIndex := 9, descriptorIndex := 6, attributes := #[] }, { accessFlags := 16409, nameIndex := 12, descriptorIndex := 6, attributes := #[] }, { accessFlags := 4122, nameIndex := 15, descriptorIndex := 16, attributes := #[] }])
  fields := #[{ name := "ARTICLE", type := (.object "com/example/recital/recital/model/Heading$Kind"), accessFlags := 16409, slot := 0, constantValue := 0 }, { name := "SECTION", type := (.object "com/example/recital/recital/model/Heading$Kind"), accessFlags := 16409, slot := 1, constantValue := 0 }, { name := "EXHIBIT", type := (.object "com/example/recital/recital/model/Heading$Kind"), accessFlags := 16409, slot := 2, constantValue := 0 }, { name := "$VALUES", type := (.array (.object "com/example/recital/recital/model/Heading$Kind")), accessFlags := 4122, slot := 3, constantValue := 0 }]
  methods := #[]
  instanceTypes := #[(.object "java/lang/String"), .int, .int]
  staticTypes := #[(.object "com/example/recital/recital/model/Heading$Kind"), (.object "com/example/recital/recital/model/Heading$Kind"), (.object "com/example/recital/recital/model/Heading$Kind"), (.array (.object "com/example/recital/recital/model/Heading$Kind"))]
  resolved := Array.replicate 56 none
  statics := some 1 }

def pool8 : Array CpInfo := pool [(1, u "java/lang/Cloneable"), (0, .class_ 1), (0, u "java/lang/Object"), (0, .class_ 3)] 3

/-- java/lang/Cloneable -/
def k8 : Class := { plain "java/lang/Cloneable" (some 0) with
  accessFlags := 1537
  interfaces := #[]
  cf := some (fileOf pool8 2 #[] #[] 1537 4 #[] #[])
  fields := #[]
  methods := #[]
  instanceTypes := #[]
  staticTypes := #[]
  resolved := Array.replicate 8 none
  statics := none }

/-- the primitive byte -/
def k9 : Class := { plain "byte" none with kind := .primitive 'B', accessFlags := 0x411 }
/-- [B -/
def k10 : Class := { plain "[B" (some 0) with kind := .array 9 .byte, interfaces := #[8, 4], accessFlags := 1041 }

def heap : Heap := #[{ cls := 6, slots := #[.ref 5, .ref 6, .ref 7, .ref 8, .ref 9, .ref 10, .ref 11, .ref 12, .ref 13, .null], vm := .statics 6 },
  { cls := 7, slots := #[.ref 3, .ref 2, .ref 4, .null], vm := .statics 7 },
  { cls := 7, slots := #[.null, .int 0, .int 0], vm := .none },
  { cls := 7, slots := #[.null, .int 1, .int 0], vm := .none },
  { cls := 7, slots := #[.null, .int 2, .int 0], vm := .none },
  { cls := 6, slots := #[.null, .int 0, .int 0, .ref 2], vm := .none },
  { cls := 6, slots := #[.null, .int 1, .int 0, .ref 3], vm := .none },
  { cls := 6, slots := #[.null, .int 2, .int 0, .ref 2], vm := .none },
  { cls := 6, slots := #[.null, .int 3, .int 0, .ref 4], vm := .none },
  { cls := 6, slots := #[.null, .int 4, .int 0, .null], vm := .none },
  { cls := 6, slots := #[.null, .int 5, .int 0, .null], vm := .none },
  { cls := 6, slots := #[.null, .int 6, .int 0, .null], vm := .none },
  { cls := 6, slots := #[.null, .int 7, .int 0, .null], vm := .none },
  { cls := 6, slots := #[.null, .int 8, .int 0, .null], vm := .none }]
def classes : Array Class := #[k0, k1, k2, k3, k4, k5, k6, k7, k8, k9, k10]
def interned : List (Array UInt16 × Addr) := []
def slotsUsed : Nat := 59
def theMethod : MethodId := ⟨1, 1⟩
def args0 : Array Value := #[.int 3]
def aboutOver (below : List Frame) : State where
  vm := { classes := classes, interned := interned.toArray }
  heap := heap
  slotsUsed := slotsUsed
  threads := #[{ frames := .invoking theMethod args0 :: below }]
def below0 : List Frame := [.native { method := ⟨0, 0⟩, args := #[] }]
def about1 : State := aboutOver below0
def p0 : Program := .bare "" "" ""
def e0 : Env := launch0.env 0 0 0
theorem w_frames : about1.frames = Frame.invoking theMethod args0 :: below0 := rfl
set_option maxRecDepth 65536 in
theorem w_args : argsFit about1.vm theMethod args0 = true := by decide +kernel
set_option maxRecDepth 65536 in
theorem w_heap : heapFits about1 = true := by decide +kernel
set_option maxRecDepth 65536 in
theorem w_runnable : about1.curStatus? = some .runnable := by decide +kernel
set_option maxRecDepth 65536 in
theorem w_alone : about1.alone = true := by decide +kernel
set_option maxRecDepth 65536 in
theorem w_named : about1.methodNamed? x = some theMethod := by decide +kernel
set_option maxRecDepth 65536 in
theorem w_hears : about1.hears theMethod below0 = true := by decide +kernel
set_option maxRecDepth 65536 in
theorem w_ripe : about1.ripe theMethod args0 below0 = true := by decide +kernel
theorem w_running : about1.status = .running := rfl
set_option maxRecDepth 65536 in
theorem w_room : about1.hasRoom e0.platform room_1 = true :=
  launch0.hasRoom_least _ room_1 (by decide +kernel) (by decide +kernel) (by decide +kernel) (by decide +kernel) (by decide +kernel) (by decide +kernel)
theorem allAtoms_all (ts : List Jvm.Cond) (a : Array Jvm.Value) (st : Jvm.State) : (allAtoms ts).before a st = ts.all (fun c => c.before a st) := by
  induction ts with
  | nil => rfl
  | cons c t ih =>
    show (Jvm.Cond.and c (allAtoms t)).before a st = _
    rw [Jvm.Cond.before_and, ih, List.all_cons]
def words1 : List Jvm.Cond := Jvm.Cond.code x code maxLocals ret :: tables_1
/-- a 'code' word, met by the world's own term for the bytes: nothing is compared byte by byte -/
theorem code_word {y : MethodName} {bytes : ByteArray} {mx : Nat} {rt : Option FieldType} {a : Array Value} {s : State} {m : MethodId} {meth : Method} {c : Code} (h1 : s.methodNamed? y = some m) (h2 : s.vm.method? m = some meth) (h3 : meth.code = some c) (h4 : c.code = bytes)
    (h5 : (c.maxLocals == mx && c.exceptionTable.isEmpty && decide (c.maxStack ≤ mostOperands) && decide (meth.sig.returnType = rt) && !meth.locks && decide (parseMethodDescriptor y.desc = some meth.sig)) = true) : (Jvm.Cond.code y bytes mx rt).before a s = true := by
  simp only [Bool.and_eq_true, beq_iff_eq, Bool.not_eq_true', decide_eq_true_eq] at h5
  obtain ⟨⟨⟨⟨⟨g1, g2⟩, g3⟩, g4⟩, g5⟩, g6⟩ := h5
  simp [Cond.before, Cond.holds, Cond.value, h1, h2, h3, h4, g1, g2, g3, g4, g5, g6]
def isCode : Jvm.Cond → Bool
  | .code _ _ _ _ => true
  | _ => false
theorem all_split {L : List Jvm.Cond} {P : Jvm.Cond → Bool} (h1 : L.all (fun c => isCode c || P c) = true) (h2 : ∀ c ∈ L.filter isCode, P c = true) : L.all P = true := by
  refine List.all_eq_true.mpr fun c hc => ?_
  have h := List.all_eq_true.mp h1 c hc
  rcases Bool.eq_false_or_eq_true (isCode c) with hi | hi
  · exact h2 c (List.mem_filter.mpr ⟨hc, hi⟩)
  · simpa [hi] using h
set_option maxRecDepth 65536 in
theorem w_c0 : (Jvm.Cond.code x code maxLocals ret).before args0 about1 = true := code_word (m := ⟨1, 1⟩) (meth := k1m1) (c := k1c1) (by decide +kernel) rfl rfl rfl (by decide +kernel)
set_option maxRecDepth 65536 in
theorem w_c1 : (Jvm.Cond.code ({ cls := "com/example/recital/recital/service/StyleHasKeywordPinLaw", name := "pick", desc := "(I)Lcom/example/recital/recital/service/Markers$Style;" } : Jvm.MethodName) method_3_code (1 : Nat) (Option.some (Jvm.ClassFile.FieldType.object "com/example/recital/recital/service/Markers$Style"))).before args0 about1 = true := code_word (m := ⟨1, 2⟩) (meth := k1m2) (c := k1c2) (by decide +kernel) rfl rfl rfl (by decide +kernel)
set_option maxRecDepth 65536 in
theorem w_c2 : (Jvm.Cond.code ({ cls := "com/example/recital/recital/service/Markers$Style", name := "hasKeyword", desc := "()Z" } : Jvm.MethodName) prog_58_method_4_code (1 : Nat) (Option.some Jvm.ClassFile.FieldType.boolean)).before args0 about1 = true := code_word (m := ⟨6, 0⟩) (meth := k6m0) (c := k6c0) (by decide +kernel) rfl rfl rfl (by decide +kernel)
def codes1 : List Jvm.Cond := [Jvm.Cond.code x code maxLocals ret, Jvm.Cond.code ({ cls := "com/example/recital/recital/service/StyleHasKeywordPinLaw", name := "pick", desc := "(I)Lcom/example/recital/recital/service/Markers$Style;" } : Jvm.MethodName) method_3_code (1 : Nat) (Option.some (Jvm.ClassFile.FieldType.object "com/example/recital/recital/service/Markers$Style")), Jvm.Cond.code ({ cls := "com/example/recital/recital/service/Markers$Style", name := "hasKeyword", desc := "()Z" } : Jvm.MethodName) prog_58_method_4_code (1 : Nat) (Option.some Jvm.ClassFile.FieldType.boolean)]
set_option maxRecDepth 65536 in
theorem codes_eq : words1.filter isCode = codes1 := rfl
theorem w_codes : ∀ c ∈ words1.filter isCode, c.before args0 about1 = true := by
  rw [codes_eq]
  intro c hc
  simp only [codes1, List.mem_cons, List.not_mem_nil, or_false] at hc
  rcases hc with rfl | rfl | rfl
  · exact w_c0
  · exact w_c1
  · exact w_c2
set_option maxRecDepth 65536 in
theorem w_t1 : (words1.take 24).all (fun c => isCode c || c.before args0 about1) = true := by decide +kernel
set_option maxRecDepth 65536 in
theorem w_t2 : (words1.drop 24).all (fun c => isCode c || c.before args0 about1) = true := by decide +kernel
theorem w_tables : (allAtoms (Jvm.Cond.code x code maxLocals ret :: tables_1)).before args0 about1 = true := by
  rw [allAtoms_all]
  show words1.all (fun c => c.before args0 about1) = true
  refine all_split ?_ w_codes
  rw [← List.take_append_drop 24 words1, List.all_append, w_t1, w_t2]
  rfl
set_option maxRecDepth 65536 in
theorem w_case : (Jvm.Cond.and given_1 narrow_1).before args0 about1 = true := by decide +kernel
theorem w_applies : (headSpec (Jvm.Cond.code x code maxLocals ret :: tables_1) room_1).applies x e0.platform about1 = true :=
  (Spec.applies_iff w_frames).mpr ⟨w_running, w_runnable, w_alone, w_named, w_hears, w_ripe, w_room, w_tables⟩
theorem atStart : AtStart classFile x code maxLocals ret World_1 tables_1 room_1 Calls_1 rest_1 Pre_1 launch0 p0 e0 about1 theMethod args0 below0 :=
  ⟨lists_1, trivial, launch0.admits_env _ _ _, launch0.least_env, fairChoices_fair.cas, fairChoices_fair.clock, w_frames, w_args, w_heap, w_applies, trivial, trivial, w_case⟩
end start1
theorem witness_1 : WitnessClaimed_1 := ⟨start1.p0, start1.e0, start1.about1, start1.theMethod, start1.args0, start1.below0, start1.atStart⟩
end Jvm.Pilot.@@N@@
