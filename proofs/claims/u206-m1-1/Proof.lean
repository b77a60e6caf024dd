import JvmDerived
import JvmDerived.Pilot.@@N@@Statement
import JvmDerived.Pilot.@@N@@Code
set_option linter.unusedVariables false
set_option linter.unusedSimpArgs false
namespace Jvm.RoadKit
open Sem ClassFile Op Lib Jvm.Stand Jvm.Free Jvm.LawKit
section Own
variable {p : Program} {l : Launch} {e : Env} {R : Room} {s : State} {m : MethodId} {args : Array Value} {below : List Frame} {meth : Method} {c : Code} {T : State} {locs : List Loc} {cells slots : Nat} {Z : State} {a0 : Array Value} {h : Heap}
/-- what is left of a body: from the frame g on it ends, and Q holds of what it returns, the heap and the places written -/
def Goes (p : Program) (e : Env) (below : List Frame) (s : State) (K N : Nat) (Q : Option Value → Heap → List Loc → Prop) (T : State) (g : JFrame) : Prop :=
  ∃ s₂ o, Steps p.tables e below (T.setTop g) s₂ ∧ s₂.status = .running ∧ Ended s₂ below o ∧ ∃ v L, o = .returned v ∧ Q v s₂.heap L ∧ FrameEnd s o s₂ L K N
theorem Goes.step {K N : Nat} {Q : Option Value → Heap → List Loc → Prop} {T' : State} {g g' : JFrame} (k : ∀ t, Steps p.tables e below (T'.setTop g') t → Steps p.tables e below (T.setTop g) t) (h : Goes p e below s K N Q T' g') : Goes p e below s K N Q T g := by
  obtain ⟨s₂, o, h1, h2⟩ := h
  exact ⟨s₂, o, k _ h1, h2⟩
theorem Goes.jump {K N : Nat} {Q : Option Value → Heap → List Loc → Prop} {T' : State} {g g' : JFrame} (k : Steps p.tables e below (T.setTop g) (T'.setTop g')) (h : Goes p e below s K N Q T' g') : Goes p e below s K N Q T g :=
  Goes.step (fun _ q => k.trans q) h
theorem Goes.ite {K N : Nat} {α : Type} {Q : α → Option Value → Heap → List Loc → Prop} {g : JFrame} {a b : α} {d : Prop} [Decidable d] (h1 : d → Goes p e below s K N (Q a) T g) (h2 : ¬ d → Goes p e below s K N (Q b) T g) : Goes p e below s K N (Q (if d then a else b)) T g := by
  split
  · next q => exact h1 q
  · next q => exact h2 q
theorem Goes.imp {K N : Nat} {Q Q' : Option Value → Heap → List Loc → Prop} {g : JFrame} (q : ∀ v h L, Q v h L → Q' v h L) (h : Goes p e below s K N Q T g) : Goes p e below s K N Q' T g := by
  obtain ⟨s₂, o, h1, h2, h3, v, L, h4, h5, h6⟩ := h
  exact ⟨s₂, o, h1, h2, h3, v, L, h4, q _ _ _ h5, h6⟩
theorem retI (X : Stand p l e R s m args below meth c T locs cells slots) (hx : p.tables.exec = Jvm.exec) {pc : Nat} {Ls : Array Slot} {z : Int32} {rest : List Value} (hret : meth.sig.returnType = some .int) (hd : decode c.code pc = .ok (.ireturn, 1)) {fs : List Frame}
    (hl : ∀ (f : JFrame) (acts : List Action), f.method = m → f.locked = none → f.entered = [] → (doReturn e (T.setTop f) acts (some (.int z))).1 = T.setFrames fs) : Steps p.tables e below (T.setTop (mkF m pc Ls (.int z :: rest))) (T.setFrames fs) := by
  have hm' : T.vm.method? m = some meth := X.method'
  have hn : narrow .int (.int z) = .int z := rfl
  show Steps p.tables e below (T.setTop { method := m, pc := pc, locals := Ls, stack := _ :: rest, locked := none }) _
  jvm_step X.here [X.here.top, hx, hd, hm', hret, hn]
  first | (intro acts; rw [hl _ acts rfl rfl rfl]) | rw [hl _ _ rfl rfl rfl]
  exact Steps.refl _
theorem retJ (X : Stand p l e R s m args below meth c T locs cells slots) (hx : p.tables.exec = Jvm.exec) {pc : Nat} {Ls : Array Slot} {z : Int64} {rest : List Value} (hret : meth.sig.returnType = some .long) (hd : decode c.code pc = .ok (.lreturn, 1)) {fs : List Frame}
    (hl : ∀ (f : JFrame) (acts : List Action), f.method = m → f.locked = none → f.entered = [] → (doReturn e (T.setTop f) acts (some (.long z))).1 = T.setFrames fs) : Steps p.tables e below (T.setTop (mkF m pc Ls (.long z :: rest))) (T.setFrames fs) :=
  retOut X hx hret rfl (Or.inr (Or.inl ⟨rfl, rfl, z, rfl⟩)) hd hl
theorem Goes.outI (X : Stand p l e R s m args below meth c T locs cells slots) (hx : p.tables.exec = Jvm.exec) (hlk : meth.locks = false) (hret : meth.sig.returnType = some .int) {pc : Nat} (hd : decode c.code pc = .ok (.ireturn, 1)) {Ls : Array Slot} {z : Int32} {rest : List Value} {K N : Nat} {Q : Option Value → Heap → List Loc → Prop}
    (hq : Q (some (.int z)) T.heap locs) (hk : cells ≤ K) (hn : slots ≤ N) : Goes p e below s K N Q T (mkF m pc Ls (.int z :: rest)) := by
  obtain ⟨fs, hr, hrun, hended, hW, hsame⟩ := X.leave (v := some (.int z)) (fun h => by rw [hret] at h; cases h) hlk
  exact ⟨_, _, retI X hx hret hd hr, hrun, hended, _, _, rfl, hq, ⟨_, rfl⟩, hW, hsame.mono hk hn⟩
theorem Goes.outJ (X : Stand p l e R s m args below meth c T locs cells slots) (hx : p.tables.exec = Jvm.exec) (hlk : meth.locks = false) (hret : meth.sig.returnType = some .long) {pc : Nat} (hd : decode c.code pc = .ok (.lreturn, 1)) {Ls : Array Slot} {z : Int64} {rest : List Value} {K N : Nat} {Q : Option Value → Heap → List Loc → Prop}
    (hq : Q (some (.long z)) T.heap locs) (hk : cells ≤ K) (hn : slots ≤ N) : Goes p e below s K N Q T (mkF m pc Ls (.long z :: rest)) := by
  obtain ⟨fs, hr, hrun, hended, hW, hsame⟩ := X.leave (v := some (.long z)) (fun h => by rw [hret] at h; cases h) hlk
  exact ⟨_, _, retJ X hx hret hd hr, hrun, hended, _, _, rfl, hq, ⟨_, rfl⟩, hW, hsame.mono hk hn⟩
theorem Goes.outN (X : Stand p l e R s m args below meth c T locs cells slots) (hx : p.tables.exec = Jvm.exec) (hlk : meth.locks = false) {t : FieldType} (hret : meth.sig.returnType = some t) (ht : t = .boolean ∨ t = .byte ∨ t = .char ∨ t = .short) {pc : Nat} (hd : decode c.code pc = .ok (.ireturn, 1)) {Ls : Array Slot} {z : Int32} {rest : List Value} {K N : Nat} {Q : Option Value → Heap → List Loc → Prop}
    (hq : Q (some (.int (nar t z))) T.heap locs) (hk : cells ≤ K) (hn : slots ≤ N) : Goes p e below s K N Q T (mkF m pc Ls (.int z :: rest)) := by
  obtain ⟨fs, hr, hrun, hended, hW, hsame⟩ := X.leave (v := some (.int (nar t z))) (fun h => by rw [hret] at h; cases h) hlk
  exact ⟨_, _, retN X hx hret ht hd hr, hrun, hended, _, _, rfl, hq, ⟨_, rfl⟩, hW, hsame.mono hk hn⟩
theorem Goes.outV (X : Stand p l e R s m args below meth c T locs cells slots) (hx : p.tables.exec = Jvm.exec) (hlk : meth.locks = false) (hret : meth.sig.returnType = none) {pc : Nat} (hd : decode c.code pc = .ok (.return_, 1)) {Ls : Array Slot} {K N : Nat} {Q : Option Value → Heap → List Loc → Prop}
    (hq : Q none T.heap locs) (hk : cells ≤ K) (hn : slots ≤ N) : Goes p e below s K N Q T (mkF m pc Ls []) := by
  obtain ⟨fs, hr, hrun, hended, hW, hsame⟩ := X.leave (v := none) (fun _ => rfl) hlk
  exact ⟨_, _, X.returnOut hx hret hd hr, hrun, hended, _, _, rfl, hq, ⟨_, rfl⟩, hW, hsame.mono hk hn⟩
theorem Goes.outR (X : Stand p l e R s m args below meth c T locs cells slots) (hx : p.tables.exec = Jvm.exec) (hlk : meth.locks = false) {t : FieldType} (hret : meth.sig.returnType = some t) (ht : t.isReference = true) {w : Value} (hw : w.isRef = true) {pc : Nat} (hd : decode c.code pc = .ok (.areturn, 1)) {Ls : Array Slot} {K N : Nat} {Q : Option Value → Heap → List Loc → Prop}
    (hq : Q (some w) T.heap locs) (hk : cells ≤ K) (hn : slots ≤ N) : Goes p e below s K N Q T (mkF m pc Ls [w]) := by
  obtain ⟨fs, hr, hrun, hended, hW, hsame⟩ := X.leave (v := some w) (fun h => by rw [hret] at h; cases h) hlk
  exact ⟨_, _, X.areturnOut hx hw hret ht hd hr, hrun, hended, _, _, rfl, hq, ⟨_, rfl⟩, hW, hsame.mono hk hn⟩
/-- a body that returns v and leaves the heap as it was -/
def PV (h0 : Heap) (r : Value) (v : Option Value) (h : Heap) (L : List Loc) : Prop := v = some r ∧ L = [] ∧ h = h0
def PI (h0 : Heap) (r : Int32) (v : Option Value) (h : Heap) (L : List Loc) : Prop := PV h0 (.int r) v h L
def PJ (h0 : Heap) (r : Int64) (v : Option Value) (h : Heap) (L : List Loc) : Prop := PV h0 (.long r) v h L
def PA (h0 : Heap) (r : Addr) (v : Option Value) (h : Heap) (L : List Loc) : Prop := PV h0 (.ref r) v h L
/-- a reference that may be null -/
def ov : Option Addr → Value
  | none => .null
  | some b => .ref b
def PO (h0 : Heap) (r : Option Addr) (v : Option Value) (h : Heap) (L : List Loc) : Prop := PV h0 (ov r) v h L
theorem ov_cat (o : Option Addr) : (ov o).category = 1 := by cases o <;> rfl
theorem ov_inj {a b : Option Addr} : (ov a = ov b) = (a = b) := by cases a <;> cases b <;> simp [ov]
theorem ov_ref (o : Option Addr) : (ov o).isRef = true := by cases o <;> rfl
/-- a virtual call of a body that leaves the heap as it was -/
theorem callPureV (X : Stand p l e R s m args below meth c T locs cells slots) (hx : p.tables.exec = Jvm.exec) (hZ : Z.Warmed39 s.vm) {own C : String} {index : Nat} {y z : MethodName} {bytes : ByteArray} {maxL : Nat} {ret : Option FieldType} (hown : s.vm.findClass own = some m.cls)
    (w1 : (Cond.methodLink own index y).before a0 Z = true) (w2 : (Cond.declares y).before a0 Z = true) (w3 : (Cond.selects C y z).before a0 Z = true) (w4 : (Cond.instanceMethod z).before a0 Z = true) (w5 : (Cond.code z bytes maxL ret).before a0 Z = true) (w6 : (Cond.initialized z.cls).before a0 Z = true) (hnf : NotFace s y) (hy : y.cls ≠ "java/lang/invoke/MethodHandle" ∧ y.cls ≠ "java/lang/invoke/VarHandle")
    {F W0 W : Nat} {b : Addr} {argsL rest : List Value} {r : Value} {Q : Option Value → Heap → List Loc → Prop} (hQ : ∀ v h' L, Q v h' L → PV h r v h' L)
    (hM : MetFree l z (head1 [Cond.code z bytes maxL ret] ({ frames := F, cells := 0, slots := 0, locals := W0 } : Room)) (fun a U => a = (.ref b :: argsL).toArray ∧ Z.Warmed39 U.vm ∧ U.heap = h) (fun _ _ _ _ _ => True) (fun _ U o U' => ∃ v L, o = .returned v ∧ Q v U'.heap L ∧ FrameEnd U o U' L ({ frames := F, cells := 0, slots := 0, locals := W0 } : Room).cells ({ frames := F, cells := 0, slots := 0, locals := W0 } : Room).slots))
    (hf : F + 1 ≤ R.frames) (hl : W + (maxL + 11) + W0 ≤ R.locals) (hc : cells ≤ R.cells) (hs : slots ≤ R.slots) (eT : T.heap = h) (E : Exa Z h b C) {g : JFrame} (hg : g.method = m) (hsize : g.locals.size = c.maxLocals) (hlen : ∀ sig, parseMethodDescriptor y.desc = some sig → argsL.length = sig.parameters.length)
    (hstack : g.stack = argsL.reverse ++ .ref b :: rest) (hW : 2 * g.monitorRoom + (rest.map fun v => v.category).sum ≤ W) (hd : decode c.code g.pc = .ok (.invokevirtual index, 3)) :
    ∃ T', Stand p l e R s m args below meth c T' locs cells slots ∧ T'.heap = h ∧ ∀ target, Steps p.tables e below (T'.setTop { g with pc := g.pc + 3, stack := r :: rest }) target → Steps p.tables e below (T.setTop g) target := by
  obtain ⟨cq, kq, qa, qb, qc⟩ := isOf hZ eT E
  obtain ⟨_, _, ⟨T18, L18, k18, n18⟩, -, X18, ⟨Lc, hq, l18, y18, z18⟩, st⟩ := X.virtualBack hx hown (mvT hZ w1) (mvT hZ w2) hnf (mvT hZ w3) (mvT hZ w4) hy (backOf (W := W) hM hZ w5 w6 hf hl) qa qc hg hsize (Steps.refl _) hlen hstack hW hd (fun _ _ => ⟨rfl, eT, hc, hs⟩)
  dsimp only [Pt.U, Pt.locs, Pt.cells, Pt.slots] at X18 l18 y18 z18 st hq
  subst l18 y18 z18
  obtain ⟨rfl, rfl, e18⟩ := hQ _ _ _ hq
  rw [List.append_nil] at X18
  exact ⟨T18, X18, e18, fun _ k => st.trans k⟩
/-- a static call of a body that leaves the heap as it was -/
theorem callPure (X : Stand p l e R s m args below meth c T locs cells slots) (hx : p.tables.exec = Jvm.exec) (hZ : Z.Warmed39 s.vm) {own : String} {index : Nat} {y : MethodName} {bytes : ByteArray} {maxL : Nat} {ret : Option FieldType} (hown : s.vm.findClass own = some m.cls)
    (w1 : (Cond.methodLink own index y).before a0 Z = true) (w2 : (Cond.static y).before a0 Z = true) (w3 : (Cond.initialized y.cls).before a0 Z = true) (w4 : (Cond.code y bytes maxL ret).before a0 Z = true) (hy : y.cls ≠ "java/lang/invoke/MethodHandle" ∧ y.cls ≠ "java/lang/invoke/VarHandle")
    {F W0 W : Nat} {argsL rest : List Value} {r : Value} {Q : Option Value → Heap → List Loc → Prop} (hQ : ∀ v h' L, Q v h' L → PV h r v h' L)
    (hM : MetFree l y (head1 [Cond.code y bytes maxL ret] ({ frames := F, cells := 0, slots := 0, locals := W0 } : Room)) (fun a U => a = argsL.toArray ∧ Z.Warmed39 U.vm ∧ U.heap = h) (fun _ _ _ _ _ => True) (fun _ U o U' => ∃ v L, o = .returned v ∧ Q v U'.heap L ∧ FrameEnd U o U' L ({ frames := F, cells := 0, slots := 0, locals := W0 } : Room).cells ({ frames := F, cells := 0, slots := 0, locals := W0 } : Room).slots))
    (hf : F + 1 ≤ R.frames) (hl : W + (maxL + 11) + W0 ≤ R.locals) (hc : cells ≤ R.cells) (hs : slots ≤ R.slots) (eT : T.heap = h) {g : JFrame} (hg : g.method = m) (hsize : g.locals.size = c.maxLocals) (hlen : ∀ sig, parseMethodDescriptor y.desc = some sig → argsL.length = sig.parameters.length)
    (hstack : g.stack = argsL.reverse ++ rest) (hW : 2 * g.monitorRoom + (rest.map fun v => v.category).sum ≤ W) (hd : decode c.code g.pc = .ok (.invokestatic index, 3)) :
    ∃ T', Stand p l e R s m args below meth c T' locs cells slots ∧ T'.heap = h ∧ ∀ target, Steps p.tables e below (T'.setTop { g with pc := g.pc + 3, stack := r :: rest }) target → Steps p.tables e below (T.setTop g) target := by
  obtain ⟨_, _, ⟨T18, L18, k18, n18⟩, -, X18, ⟨Lc, hq, l18, y18, z18⟩, st⟩ := Jvm.LawKit.callS X hx hown (mvT hZ w1) (mvT hZ w2) (mvT hZ w3) (mvT hZ w4) hy (backOf (W := W) hM hZ w4 w3 hf hl) hg hsize hlen hstack hW hd (fun _ _ => ⟨rfl, eT, hc, hs⟩)
  dsimp only [Pt.U, Pt.locs, Pt.cells, Pt.slots] at X18 l18 y18 z18 st hq
  subst l18 y18 z18
  obtain ⟨rfl, rfl, e18⟩ := hQ _ _ _ hq
  rw [List.append_nil] at X18
  exact ⟨T18, X18, e18, st⟩
end Own
end Jvm.RoadKit
namespace Jvm.RoadKit
open Sem ClassFile Op Lib Jvm.Stand Jvm.Free Jvm.LawKit
section OwnHeap
variable {p : Program} {l : Launch} {e : Env} {R : Room} {s : State} {m : MethodId} {args : Array Value} {below : List Frame} {meth : Method} {c : Code} {T : State} {locs : List Loc} {cells slots : Nat} {Z : State} {a0 : Array Value} {h h' : Heap} {a b : Addr} {ty : FieldType} {n : Nat} {f : Nat → Int32}
/-- a law's end: what it returns; nothing old was written -/
def PG (n0 : Nat) (r : Int32) (v : Option Value) (h : Heap) (L : List Loc) : Prop := v = some (.int r) ∧ Fr n0 L
/-- an array of n ints (bytes, chars ..): place j holds f j -/
def Ari (Z : State) (h : Heap) (a : Addr) (ty : FieldType) (n : Nat) (f : Nat → Int32) : Prop := ∃ c : Cell, Arr Z h a c ty ∧ c.slots.size = n ∧ n < 2 ^ 31 ∧ ∀ j, j < n → c.slots[j]? = some (.int (f j)) ∧ fits ty (.int (f j)) = true
theorem Ari.lt (F : Ari Z h a ty n f) : a < h.size := by obtain ⟨c, A, -⟩ := F; exact A.lt
theorem Ari.ext (F : Ari Z h a ty n f) (E : Ext h h') : Ari Z h' a ty n f := by obtain ⟨c, A, r⟩ := F; exact ⟨c, A.ext E, r⟩
theorem Ari.other {v : Value} {sl : Nat} (F : Ari Z h b ty n f) (W : Wr h h' a sl v) (q : b ≠ a) : Ari Z h' b ty n f := by obtain ⟨c, A, r⟩ := F; exact ⟨c, A.other W q, r⟩
theorem Ari.keep {ws : List Addr} (F : Ari Z h a ty n f) (K : Keep h h' ws) (q : a ∉ ws) : Ari Z h' a ty n f := by obtain ⟨c, A, r⟩ := F; exact ⟨c, ⟨K.2.1 a c A.1 q, A.2⟩, r⟩
theorem Ari.cast {g : Nat → Int32} (F : Ari Z h a ty n f) (q : ∀ j, j < n → f j = g j) : Ari Z h a ty n g := by
  obtain ⟨c, A, h1, h2, h3⟩ := F
  exact ⟨c, A, h1, h2, fun j hj => by rw [← q j hj]; exact h3 j hj⟩
def updI (f : Nat → Int32) (i : Nat) (x : Int32) : Nat → Int32 := fun j => if j = i then x else f j
theorem Ari.store {i : Nat} {x : Int32} (F : Ari Z h a ty n f) (W : Wr h h' a i (.int x)) (hi : i < n) (hx : fits ty (.int x) = true) : Ari Z h' a ty n (updI f i x) := by
  obtain ⟨c, A, h1, h2, h3⟩ := F
  refine ⟨c.setSlot i (.int x), A.same W, by rw [sz_set]; exact h1, h2, fun j hj => ?_⟩
  by_cases e : j = i
  · subst e
    simp only [updI, if_true]
    exact ⟨by simp [Cell.setSlot, h1, hj], hx⟩
  · simp only [updI, e, if_false]
    exact ⟨by rw [← (h3 j hj).1]; simp [Cell.setSlot, Array.getElem?_setIfInBounds, Ne.symm e], (h3 j hj).2⟩
theorem own_fitsI (x : Int32) : fits .int (.int x) = true := rfl
/-- newarray of N places -/
theorem newI (X : Stand p l e R s m args below meth c T locs cells slots) (hx : p.tables.exec = Jvm.exec) (hZ : Z.Warmed39 s.vm) {aty : ArrayType} (w : (Cond.arrayClass (newarray.typeOf aty)).before a0 Z = true) (eT : T.heap = h) {g : JFrame} (hg : g.method = m) (hd : decode c.code g.pc = .ok (.newarray aty, 2)) {z : Int32} {rest : List Value} (hs : g.stack = .int z :: rest)
    {N : Nat} (hz : z = Int32.ofNat N) {cap : Nat} (hcap : N ≤ cap) (hb : cap * 8 ≤ 536870912) (hc : cells + 1 ≤ R.cells) (hl : slots + cap ≤ R.slots) (hdv : defaultValue (newarray.typeOf aty) = .int 0) (hft : fits (newarray.typeOf aty) (.int 0) = true) :
    ∃ T' h', Stand p l e R s m args below meth c T' locs (cells + 1) (slots + cap) ∧ T'.heap = h' ∧ Ext h h' ∧ Ari Z h' h.size (newarray.typeOf aty) N (fun _ => 0) ∧ ∀ target, Steps p.tables e below (T'.setTop { g with pc := g.pc + 2, stack := .ref h.size :: rest }) target → Steps p.tables e below (T.setTop g) target := by
  have hN : N < 2 ^ 31 := by omega
  have ez : z.toInt = N := by rw [hz]; exact Int32.toInt_ofNat_of_lt hN
  have h0 : ¬ z < 0 := by rw [Int32.lt_iff_toInt_lt, ez]; have : (0 : Int32).toInt = 0 := rfl; omega
  have hn : z.toNatClampNeg = N := by have := nat_of h0; omega
  obtain ⟨T', h', cA, X', e', E, A, st⟩ := newP X hx hZ w eT hg hd hs h0 (cap := cap) (by omega) hb hc hl
  refine ⟨T', h', X', e', E, ⟨_, A, by rw [sz_new, hn], hN, fun j hj => ⟨?_, hft⟩⟩, st⟩
  simp [newA, hn, hj, hdv]
/-- iastore, bastore, castore at place i -/
theorem own_in {j : Int32} {i n : Nat} (hj : j = Int32.ofNat i) (hi : i < n) (hn : n < 2 ^ 31) : ¬ (j < 0 ∨ n ≤ j.toNatClampNeg) ∧ j.toNatClampNeg = i := by
  have ez : j.toInt = i := by rw [hj]; exact Int32.toInt_ofNat_of_lt (by omega)
  have h0 : ¬ j < 0 := by rw [Int32.lt_iff_toInt_lt, ez]; have : (0 : Int32).toInt = 0 := rfl; omega
  have hk : j.toNatClampNeg = i := by have := nat_of h0; omega
  exact ⟨by rintro (q | q); exact h0 q; omega, hk⟩
theorem stoI (X : Stand p l e R s m args below meth c T locs cells slots) (hx : p.tables.exec = Jvm.exec) (hZ : Z.Warmed39 s.vm) (eT : T.heap = h) (A : Ari Z h a .int n f) {j x : Int32} (i : Nat) (hj : j = Int32.ofNat i) (hi : i < n) {g : JFrame} (hg : g.method = m) {rest : List Value} (hs : g.stack = .int x :: .int j :: .ref a :: rest) (hd : decode c.code g.pc = .ok (.iastore, 1)) :
    ∃ T' h', Stand p l e R s m args below meth c T' (locs ++ [⟨a, i⟩]) cells slots ∧ T'.heap = h' ∧ Wr h h' a i (.int x) ∧ Ari Z h' a .int n (updI f i x) ∧ ∀ target, Steps p.tables e below (T'.setTop { g with pc := g.pc + 1, stack := rest }) target → Steps p.tables e below (T.setTop g) target := by
  have A' := A
  obtain ⟨cl, A1, h1, h2, h3⟩ := A
  obtain ⟨q1, q2⟩ := own_in hj hi h2
  obtain ⟨T', h', X', e', W, st⟩ := stI X hx hZ eT A1 (j := j) (by rw [h1]; exact q1) hg hs hd
  rw [q2] at X' W
  exact ⟨T', h', X', e', W, A'.store W hi rfl, st⟩
theorem stoB (X : Stand p l e R s m args below meth c T locs cells slots) (hx : p.tables.exec = Jvm.exec) (hZ : Z.Warmed39 s.vm) (eT : T.heap = h) (A : Ari Z h a .byte n f) {j x : Int32} (i : Nat) (hj : j = Int32.ofNat i) (hi : i < n) {g : JFrame} (hg : g.method = m) {rest : List Value} (hs : g.stack = .int x :: .int j :: .ref a :: rest) (hd : decode c.code g.pc = .ok (.bastore, 1)) :
    ∃ T' h', Stand p l e R s m args below meth c T' (locs ++ [⟨a, i⟩]) cells slots ∧ T'.heap = h' ∧ Wr h h' a i (.int x.toInt8.toInt32) ∧ Ari Z h' a .byte n (updI f i x.toInt8.toInt32) ∧ ∀ target, Steps p.tables e below (T'.setTop { g with pc := g.pc + 1, stack := rest }) target → Steps p.tables e below (T.setTop g) target := by
  have A' := A
  obtain ⟨cl, A1, h1, h2, h3⟩ := A
  obtain ⟨q1, q2⟩ := own_in hj hi h2
  obtain ⟨T', h', X', e', W, st⟩ := stB X hx hZ eT A1 (j := j) (by rw [h1]; exact q1) hg hs hd
  rw [q2] at X' W
  exact ⟨T', h', X', e', W, A'.store W hi (fits_nar_byte x), st⟩
theorem stoC (X : Stand p l e R s m args below meth c T locs cells slots) (hx : p.tables.exec = Jvm.exec) (hZ : Z.Warmed39 s.vm) (eT : T.heap = h) (A : Ari Z h a .char n f) {j x : Int32} (i : Nat) (hj : j = Int32.ofNat i) (hi : i < n) {g : JFrame} (hg : g.method = m) {rest : List Value} (hs : g.stack = .int x :: .int j :: .ref a :: rest) (hd : decode c.code g.pc = .ok (.castore, 1)) :
    ∃ T' h', Stand p l e R s m args below meth c T' (locs ++ [⟨a, i⟩]) cells slots ∧ T'.heap = h' ∧ Wr h h' a i (.int (nar .char x)) ∧ Ari Z h' a .char n (updI f i (nar .char x)) ∧ ∀ target, Steps p.tables e below (T'.setTop { g with pc := g.pc + 1, stack := rest }) target → Steps p.tables e below (T.setTop g) target := by
  have A' := A
  obtain ⟨cl, A1, h1, h2, h3⟩ := A
  obtain ⟨q1, q2⟩ := own_in hj hi h2
  obtain ⟨T', h', X', e', W, st⟩ := stC X hx hZ eT A1 (j := j) (by rw [h1]; exact q1) hg hs hd
  rw [q2] at X' W
  exact ⟨T', h', X', e', W, A'.store W hi (fits_nar_char x), st⟩
/-- iaload, baload at place i; arraylength -/
theorem rdI (X : Stand p l e R s m args below meth c T locs cells slots) (hx : p.tables.exec = Jvm.exec) (hZ : Z.Warmed39 s.vm) (eT : T.heap = h) (A : Ari Z h a .int n f) {j : Int32} (i : Nat) (hj : j = Int32.ofNat i) (hi : i < n) {g : JFrame} (hg : g.method = m) {rest : List Value} (hs : g.stack = .int j :: .ref a :: rest) (hd : decode c.code g.pc = .ok (.iaload, 1)) :
    ∀ target, Steps p.tables e below (T.setTop { g with pc := g.pc + 1, stack := .int (f i) :: rest }) target → Steps p.tables e below (T.setTop g) target := by
  obtain ⟨cl, A1, h1, h2, h3⟩ := A
  obtain ⟨q1, q2⟩ := own_in hj hi h2
  intro target k
  exact X.iaload hx (by rw [eT]; exact A1.1) (State.isArrayOf_alike hZ.alike A1.2.1) A1.2.2 (by rw [h1]; exact q1) (by rw [q2]; exact (h3 i hi).1) hg hs hd _ k
theorem rdB (X : Stand p l e R s m args below meth c T locs cells slots) (hx : p.tables.exec = Jvm.exec) (hZ : Z.Warmed39 s.vm) (eT : T.heap = h) (A : Ari Z h a .byte n f) {j : Int32} (i : Nat) (hj : j = Int32.ofNat i) (hi : i < n) {g : JFrame} (hg : g.method = m) {rest : List Value} (hs : g.stack = .int j :: .ref a :: rest) (hd : decode c.code g.pc = .ok (.baload, 1)) :
    ∀ target, Steps p.tables e below (T.setTop { g with pc := g.pc + 1, stack := .int (f i) :: rest }) target → Steps p.tables e below (T.setTop g) target := by
  obtain ⟨cl, A1, h1, h2, h3⟩ := A
  obtain ⟨q1, q2⟩ := own_in hj hi h2
  intro target k
  exact X.baloadBytes hx (by rw [eT]; exact A1.1) (State.isArrayOf_alike hZ.alike A1.2.1) A1.2.2 (by rw [h1]; exact q1) (by rw [q2]; exact (h3 i hi).1) hg hs hd _ k
theorem rdL (X : Stand p l e R s m args below meth c T locs cells slots) (hx : p.tables.exec = Jvm.exec) (hZ : Z.Warmed39 s.vm) (eT : T.heap = h) (A : Ari Z h a ty n f) {g : JFrame} (hg : g.method = m) {rest : List Value} (hs : g.stack = .ref a :: rest) (hd : decode c.code g.pc = .ok (.arraylength, 1)) :
    ∀ target, Steps p.tables e below (T.setTop { g with pc := g.pc + 1, stack := .int (Int32.ofNat n) :: rest }) target → Steps p.tables e below (T.setTop g) target := by
  obtain ⟨cl, A1, h1, h2, h3⟩ := A
  intro target k
  refine X.arraylength hx (by rw [eT]; exact A1.1) (State.isArrayOf_alike hZ.alike A1.2.1) hg hs hd _ ?_
  rw [h1]
  exact k
/-- calls by a contract that may make and write -/
theorem callX (X : Stand p l e R s m args below meth c T locs cells slots) (hx : p.tables.exec = Jvm.exec) (hZ : Z.Warmed39 s.vm) {own : String} {index : Nat} {y : MethodName} {bytes : ByteArray} {maxL : Nat} {ret : Option FieldType} (hown : s.vm.findClass own = some m.cls)
    (w1 : (Cond.methodLink own index y).before a0 Z = true) (w2 : (Cond.static y).before a0 Z = true) (w3 : (Cond.initialized y.cls).before a0 Z = true) (w4 : (Cond.code y bytes maxL ret).before a0 Z = true) (hy : y.cls ≠ "java/lang/invoke/MethodHandle" ∧ y.cls ≠ "java/lang/invoke/VarHandle")
    {rm : Room} {W : Nat} {argsL rest : List Value} {Q : Option Value → Heap → List Loc → Prop}
    (hM : MetFree l y (head1 [Cond.code y bytes maxL ret] rm) (fun a U => a = argsL.toArray ∧ Z.Warmed39 U.vm ∧ U.heap = h) (fun _ _ _ _ _ => True) (fun _ U o U' => ∃ v L, o = .returned v ∧ Q v U'.heap L ∧ FrameEnd U o U' L rm.cells rm.slots))
    (hf : rm.frames + 1 ≤ R.frames) (hl : W + (maxL + 11) + rm.locals ≤ R.locals) (hc : cells + rm.cells ≤ R.cells) (hs : slots + rm.slots ≤ R.slots) (eT : T.heap = h) {g : JFrame} (hg : g.method = m) (hsize : g.locals.size = c.maxLocals) (hlen : ∀ sig, parseMethodDescriptor y.desc = some sig → argsL.length = sig.parameters.length)
    (hstack : g.stack = argsL.reverse ++ rest) (hW : 2 * g.monitorRoom + (rest.map fun v => v.category).sum ≤ W) (hd : decode c.code g.pc = .ok (.invokestatic index, 3)) :
    ∃ v T' h' L, Stand p l e R s m args below meth c T' (locs ++ L) (cells + rm.cells) (slots + rm.slots) ∧ T'.heap = h' ∧ Q v h' L ∧ ∀ target, Steps p.tables e below (T'.setTop { g with pc := g.pc + 3, stack := v.toList ++ rest }) target → Steps p.tables e below (T.setTop g) target := by
  obtain ⟨v, _, ⟨T18, L18, k18, n18⟩, -, X18, ⟨Lc, hq, l18, y18, z18⟩, st⟩ := Jvm.LawKit.callS X hx hown (mvT hZ w1) (mvT hZ w2) (mvT hZ w3) (mvT hZ w4) hy (backOf (W := W) hM hZ w4 w3 hf hl) hg hsize hlen hstack hW hd (fun _ _ => ⟨rfl, eT, hc, hs⟩)
  dsimp only [Pt.U, Pt.locs, Pt.cells, Pt.slots] at X18 l18 y18 z18 st hq
  subst l18 y18 z18
  exact ⟨v, T18, _, Lc, X18, rfl, hq, st⟩
theorem callXV (X : Stand p l e R s m args below meth c T locs cells slots) (hx : p.tables.exec = Jvm.exec) (hZ : Z.Warmed39 s.vm) {own C : String} {index : Nat} {y z : MethodName} {bytes : ByteArray} {maxL : Nat} {ret : Option FieldType} (hown : s.vm.findClass own = some m.cls)
    (w1 : (Cond.methodLink own index y).before a0 Z = true) (w2 : (Cond.declares y).before a0 Z = true) (w3 : (Cond.selects C y z).before a0 Z = true) (w4 : (Cond.instanceMethod z).before a0 Z = true) (w5 : (Cond.code z bytes maxL ret).before a0 Z = true) (w6 : (Cond.initialized z.cls).before a0 Z = true) (hnf : NotFace s y) (hy : y.cls ≠ "java/lang/invoke/MethodHandle" ∧ y.cls ≠ "java/lang/invoke/VarHandle")
    {rm : Room} {W : Nat} {argsL rest : List Value} {Q : Option Value → Heap → List Loc → Prop}
    (hM : MetFree l z (head1 [Cond.code z bytes maxL ret] rm) (fun a U => a = (.ref b :: argsL).toArray ∧ Z.Warmed39 U.vm ∧ U.heap = h) (fun _ _ _ _ _ => True) (fun _ U o U' => ∃ v L, o = .returned v ∧ Q v U'.heap L ∧ FrameEnd U o U' L rm.cells rm.slots))
    (hf : rm.frames + 1 ≤ R.frames) (hl : W + (maxL + 11) + rm.locals ≤ R.locals) (hc : cells + rm.cells ≤ R.cells) (hs : slots + rm.slots ≤ R.slots) (eT : T.heap = h) (E : Exa Z h b C) {g : JFrame} (hg : g.method = m) (hsize : g.locals.size = c.maxLocals) (hlen : ∀ sig, parseMethodDescriptor y.desc = some sig → argsL.length = sig.parameters.length)
    (hstack : g.stack = argsL.reverse ++ .ref b :: rest) (hW : 2 * g.monitorRoom + (rest.map fun v => v.category).sum ≤ W) (hd : decode c.code g.pc = .ok (.invokevirtual index, 3)) :
    ∃ v T' h' L, Stand p l e R s m args below meth c T' (locs ++ L) (cells + rm.cells) (slots + rm.slots) ∧ T'.heap = h' ∧ Q v h' L ∧ ∀ target, Steps p.tables e below (T'.setTop { g with pc := g.pc + 3, stack := v.toList ++ rest }) target → Steps p.tables e below (T.setTop g) target := by
  obtain ⟨cq, kq, qa, qb, qc⟩ := isOf hZ eT E
  obtain ⟨v, _, ⟨T18, L18, k18, n18⟩, -, X18, ⟨Lc, hq, l18, y18, z18⟩, st⟩ := X.virtualBack hx hown (mvT hZ w1) (mvT hZ w2) hnf (mvT hZ w3) (mvT hZ w4) hy (backOf (W := W) hM hZ w5 w6 hf hl) qa qc hg hsize (Steps.refl _) hlen hstack hW hd (fun _ _ => ⟨rfl, eT, hc, hs⟩)
  dsimp only [Pt.U, Pt.locs, Pt.cells, Pt.slots] at X18 l18 y18 z18 st hq
  subst l18 y18 z18
  exact ⟨v, T18, _, Lc, X18, rfl, hq, fun _ k => st.trans k⟩
theorem callXP (X : Stand p l e R s m args below meth c T locs cells slots) (hx : p.tables.exec = Jvm.exec) (hZ : Z.Warmed39 s.vm) {own C : String} {index ki : Nat} {y : MethodName} {bytes : ByteArray} {maxL : Nat} {ret : Option FieldType} (hown : s.vm.findClass own = some m.cls)
    (w1 : (Cond.methodLink own index y).before a0 Z = true) (w4 : (Cond.instanceMethod y).before a0 Z = true) (wp : (Cond.privateMethod y).before a0 Z = true) (wi : (Cond.instantiable y.cls ki).before a0 Z = true) (w5 : (Cond.code y bytes maxL ret).before a0 Z = true) (w6 : (Cond.initialized y.cls).before a0 Z = true) (hy : y.cls ≠ "java/lang/invoke/MethodHandle" ∧ y.cls ≠ "java/lang/invoke/VarHandle")
    {rm : Room} {W : Nat} {argsL rest : List Value} {Q : Option Value → Heap → List Loc → Prop}
    (hM : MetFree l y (head1 [Cond.code y bytes maxL ret] rm) (fun a U => a = (.ref b :: argsL).toArray ∧ Z.Warmed39 U.vm ∧ U.heap = h) (fun _ _ _ _ _ => True) (fun _ U o U' => ∃ v L, o = .returned v ∧ Q v U'.heap L ∧ FrameEnd U o U' L rm.cells rm.slots))
    (hf : rm.frames + 1 ≤ R.frames) (hl : W + (maxL + 11) + rm.locals ≤ R.locals) (hc : cells + rm.cells ≤ R.cells) (hs : slots + rm.slots ≤ R.slots) (eT : T.heap = h) (E : Exa Z h b C) {g : JFrame} (hg : g.method = m) (hsize : g.locals.size = c.maxLocals) (hlen : ∀ sig, parseMethodDescriptor y.desc = some sig → argsL.length = sig.parameters.length)
    (hstack : g.stack = argsL.reverse ++ .ref b :: rest) (hW : 2 * g.monitorRoom + (rest.map fun v => v.category).sum ≤ W) (hd : decode c.code g.pc = .ok (.invokevirtual index, 3)) :
    ∃ v T' h' L, Stand p l e R s m args below meth c T' (locs ++ L) (cells + rm.cells) (slots + rm.slots) ∧ T'.heap = h' ∧ Q v h' L ∧ ∀ target, Steps p.tables e below (T'.setTop { g with pc := g.pc + 3, stack := v.toList ++ rest }) target → Steps p.tables e below (T.setTop g) target := by
  have hp : s.PrivateAt y := Cond.privateMethod_at (mvP hZ wp (args := #[]))
  obtain ⟨cc, kk, hcc, hkk, -, hni, -, -⟩ := Cond.instantiable_spec (args := #[]) (mvT hZ wi)
  have hsel : (Cond.selects y.cls y y).before args s = true := selects_self_of_private hcc hkk (Bool.or_eq_false_iff.mp hni).1 hp (mvT hZ w4) hy
  obtain ⟨cq, q3, q3'⟩ := E.cell
  obtain ⟨v, _, ⟨T18, L18, k18, n18⟩, -, X18, ⟨Lc, hq, l18, y18, z18⟩, st⟩ := X.privateBack hx hown (mvT hZ w1) (mvT hZ w4) hsel hp (mvT hZ w5) hy (backOf (W := W) hM hZ w5 w6 hf hl) hg hsize (Steps.refl _) (a := b) (by rw [eT]; exact q3) q3' hlen hstack hW hd (fun _ _ => ⟨rfl, eT, hc, hs⟩)
  dsimp only [Pt.U, Pt.locs, Pt.cells, Pt.slots] at X18 l18 y18 z18 st hq
  subst l18 y18 z18
  exact ⟨v, T18, _, Lc, X18, rfl, hq, fun _ k => st.trans k⟩
theorem callXI (X : Stand p l e R s m args below meth c T locs cells slots) (hx : p.tables.exec = Jvm.exec) (hZ : Z.Warmed39 s.vm) {own : String} {index : Nat} {y : MethodName} {bytes : ByteArray} {maxL : Nat} (hown : s.vm.findClass own = some m.cls) (hy1 : y.name = "<init>")
    (w1 : (Cond.methodLink own index y).before a0 Z = true) (w4 : (Cond.instanceMethod y).before a0 Z = true) (w5 : (Cond.code y bytes maxL none).before a0 Z = true) (w6 : (Cond.initialized y.cls).before a0 Z = true) (hy : y.cls ≠ "java/lang/invoke/MethodHandle" ∧ y.cls ≠ "java/lang/invoke/VarHandle")
    {rm : Room} {W : Nat} {argsL rest : List Value} {Q : Option Value → Heap → List Loc → Prop}
    (hM : MetFree l y (head1 [Cond.code y bytes maxL none] rm) (fun a U => a = (.ref b :: argsL).toArray ∧ Z.Warmed39 U.vm ∧ U.heap = h) (fun _ _ _ _ _ => True) (fun _ U o U' => ∃ v L, o = .returned v ∧ Q v U'.heap L ∧ FrameEnd U o U' L rm.cells rm.slots))
    (hf : rm.frames + 1 ≤ R.frames) (hl : W + (maxL + 11) + rm.locals ≤ R.locals) (hc : cells + rm.cells ≤ R.cells) (hs : slots + rm.slots ≤ R.slots) (eT : T.heap = h) {g : JFrame} (hg : g.method = m) (hsize : g.locals.size = c.maxLocals) (hlen : ∀ sig, parseMethodDescriptor y.desc = some sig → argsL.length = sig.parameters.length)
    (hstack : g.stack = argsL.reverse ++ .ref b :: rest) (hW : 2 * g.monitorRoom + (rest.map fun v => v.category).sum ≤ W) (hd : decode c.code g.pc = .ok (.invokespecial index, 3)) :
    ∃ v T' h' L, Stand p l e R s m args below meth c T' (locs ++ L) (cells + rm.cells) (slots + rm.slots) ∧ T'.heap = h' ∧ Q v h' L ∧ ∀ target, Steps p.tables e below (T'.setTop { g with pc := g.pc + 3, stack := v.toList ++ rest }) target → Steps p.tables e below (T.setTop g) target := by
  obtain ⟨v, _, ⟨T18, L18, k18, n18⟩, -, X18, ⟨Lc, hq, l18, y18, z18⟩, st⟩ := X.specialBack hx hy1 hown (mvT hZ w1) (mvT hZ w4) (mvT hZ w5) hy (backOf (W := W) hM hZ w5 w6 hf hl) hg hsize (Steps.refl _) hlen hstack hW hd (fun _ _ => ⟨rfl, eT, hc, hs⟩)
  dsimp only [Pt.U, Pt.locs, Pt.cells, Pt.slots] at X18 l18 y18 z18 st hq
  subst l18 y18 z18
  exact ⟨v, T18, _, Lc, X18, rfl, hq, fun _ k => st.trans k⟩
/-- arrays as lists, for System.arraycopy -/
theorem Ari.arv (F : Ari Z h a ty n f) : ∃ k, Arv Z h a k ty (Int32.ofNat n) ((List.range n).map fun j => Value.int (f j)) (.int 0) := by
  obtain ⟨cl, A, h1, h2, h3⟩ := F
  have ez : (Int32.ofNat n).toInt = n := Int32.toInt_ofNat_of_lt h2
  have h0 : ¬ Int32.ofNat n < 0 := by rw [Int32.lt_iff_toInt_lt, ez]; have : (0 : Int32).toInt = 0 := rfl; omega
  have hk : (Int32.ofNat n).toNatClampNeg = n := by have := nat_of h0; omega
  have q : ∀ i, i < n → ((List.range n).map fun j => Value.int (f j)).getD i (.int 0) = .int (f i) := fun i hi => by simp [List.getD_eq_getElem?_getD, hi]
  exact ⟨cl.cls, cl, A, rfl, by rw [hk]; exact h1, h0, fun i hi => by rw [q i (h1 ▸ hi)]; exact (h3 i (h1 ▸ hi)).1, fun i hi => by rw [q i (h1 ▸ hi)]; exact (h3 i (h1 ▸ hi)).2⟩
theorem Ari.of_arv {k : ClassId} {vs : List Value} {d : Value} {g : Nat → Int32} (F : Arv Z h a k ty (Int32.ofNat n) vs d) (hn : n < 2 ^ 31) (q : ∀ j, j < n → vs.getD j d = .int (g j)) : Ari Z h a ty n g := by
  obtain ⟨cl, A, -, h1, h0, H, G⟩ := F
  have ez : (Int32.ofNat n).toInt = n := Int32.toInt_ofNat_of_lt hn
  have hk : (Int32.ofNat n).toNatClampNeg = n := by have := nat_of h0; omega
  rw [hk] at h1
  exact ⟨cl, A, h1, hn, fun j hj => by rw [← q j hj]; exact ⟨H j (h1 ▸ hj), G j (h1 ▸ hj)⟩⟩
def blit (f g : Nat → Int32) (sp dp k : Nat) : Nat → Int32 := fun j => if dp ≤ j ∧ j < dp + k then f (sp + (j - dp)) else g j
theorem own_blit (f g : Nat → Int32) (n N sp dp k : Nat) (h1 : sp + k ≤ n) (h2 : dp + k ≤ N) (j : Nat) (hj : j < N) :
    (((List.range N).map fun j => Value.int (g j)).take dp ++ ((List.range k).map fun i => ((List.range n).map fun j => Value.int (f j)).getD (sp + i) (.int 0)) ++ ((List.range N).map fun j => Value.int (g j)).drop (dp + k)).getD j (.int 0) = .int (blit f g sp dp k j) := by
  simp only [blit, List.getD_eq_getElem?_getD]
  by_cases q1 : j < dp
  · have e : ¬ (dp ≤ j ∧ j < dp + k) := by omega
    rw [if_neg e, List.append_assoc, List.getElem?_append_left (by simp; omega)]
    simp [List.getElem?_take, q1, hj]
  · by_cases q2 : j < dp + k
    · rw [if_pos ⟨by omega, q2⟩, List.append_assoc, List.getElem?_append_right (by simp; omega), List.getElem?_append_left (by simp; omega)]
      have e1 : min dp N = dp := by omega
      have e2 : j - dp < k := by omega
      have e3 : sp + (j - dp) < n := by omega
      simp [e1, e2, e3]
    · have e : ¬ (dp ≤ j ∧ j < dp + k) := by omega
      rw [if_neg e, List.append_assoc, List.getElem?_append_right (by simp; omega), List.getElem?_append_right (by simp; omega)]
      have e1 : min dp N = dp := by omega
      have e2 : dp + k + (j - dp - k) = j := by omega
      simp [e1, e2, hj]
theorem copyI (X : Stand p l e R s m args below meth c T locs cells slots) (hx : p.tables.exec = Jvm.exec) (hZ : Z.Warmed39 s.vm) {own : String} {index : Nat} (hown : s.vm.findClass own = some m.cls)
    (w1 : (Cond.methodLink own index Jvm.Stand.acN).before a0 Z = true) (w2 : (Cond.native Jvm.Stand.acN).before a0 Z = true) (w3 : (Cond.static Jvm.Stand.acN).before a0 Z = true) (w4 : (Cond.initialized "java/lang/System").before a0 Z = true) (eT : T.heap = h)
    {N sp dp k : Nat} {g' : Nat → Int32} {zs zd zk : Int32} (A : Ari Z h a ty n f) (B : Ari Z h b ty N g') (hty : refKind ty = false) (es : zs = Int32.ofNat sp) (ed : zd = Int32.ofNat dp) (ek : zk = Int32.ofNat k) (h1 : sp + k ≤ n) (h2 : dp + k ≤ N) {n0 : Nat} (NF : Fr n0 locs) (ge : n0 ≤ b)
    {g : JFrame} (hg : g.method = m) (hsize : g.locals.size = c.maxLocals) {rest : List Value} (hs : g.stack = .int zk :: .int zd :: .ref b :: .int zs :: .ref a :: rest) (hd : decode c.code g.pc = .ok (.invokestatic index, 3))
    (hf : 1 ≤ R.frames) {W : Nat} (hW : 2 * g.monitorRoom + (rest.map fun v => v.category).sum ≤ W) (hlo : W + (nativeFrameWords "java/lang/System" "arraycopy" 5 + 11) ≤ R.locals) :
    ∃ T' h' L, Stand p l e R s m args below meth c T' L cells slots ∧ T'.heap = h' ∧ Fr n0 L ∧ Keep h h' [b] ∧ Ari Z h' b ty N (blit f g' sp dp k) ∧
      ∀ target, Steps p.tables e below (T'.setTop { g with pc := g.pc + 3, stack := rest }) target → Steps p.tables e below (T.setTop g) target := by
  have hn : n < 2 ^ 31 := by obtain ⟨_, _, _, q, _⟩ := A; exact q
  have hN : N < 2 ^ 31 := by obtain ⟨_, _, _, q, _⟩ := B; exact q
  have nz : ∀ {z : Int32} {i : Nat}, z = Int32.ofNat i → i < 2 ^ 31 → ¬ z < 0 ∧ z.toNatClampNeg = i := fun {z i} e hi => by
    have ez : z.toInt = i := by rw [e]; exact Int32.toInt_ofNat_of_lt hi
    have h0 : ¬ z < 0 := by rw [Int32.lt_iff_toInt_lt, ez]; have : (0 : Int32).toInt = 0 := rfl; omega
    exact ⟨h0, by have := nat_of h0; omega⟩
  obtain ⟨ka, VA⟩ := A.arv
  obtain ⟨kb, VB⟩ := B.arv
  obtain ⟨s1, s2⟩ := nz es (by omega)
  obtain ⟨d1, d2⟩ := nz ed (by omega)
  obtain ⟨k1, k2⟩ := nz ek (by omega)
  have n2 := (nz (rfl : Int32.ofNat n = Int32.ofNat n) hn).2
  have N2 := (nz (rfl : Int32.ofNat N = Int32.ofNat N) hN).2
  obtain ⟨T', h', L, X', e', F', K', V', st⟩ := cpA X hx hZ hown w1 w2 w3 w4 eT (sp := zs) (dp := zd) (nn := zk) VA VB (Or.inl ⟨rfl, hty⟩) s1 d1 k1 (by rw [s2, k2, n2]; exact h1) (by rw [d2, k2, N2]; exact h2) rfl (by rw [d2, k2]; simp; exact h2) NF ge hg hsize hs hd hf hW hlo
  refine ⟨T', h', L, X', e', F', K', Ari.of_arv V' hN fun j hj => ?_, st⟩
  rw [s2, d2, k2]
  exact own_blit f g' n N sp dp k h1 h2 j hj
/-- a class of objects that isn't a subclass of another one -/
theorem own_noinst {C S K : String} {ki : Nat} (w : (Cond.superclass C S).before a0 Z = true) (wr : (Cond.noSuperclass S).before a0 Z = true) (wi : (Cond.instantiable K ki).before a0 Z = true) (h1 : S ≠ K) (h2 : C ≠ K) : ∃ c t, Z.vm.findClass C = some c ∧ Z.vm.findClass K = some t ∧ Z.vm.assignable c t = false := by
  obtain ⟨t, kt, g1, g2, g3, g4, -⟩ := Cond.instantiable_spec wi
  have root : NS Z S K := by
    obtain ⟨c, k, q1, q2, q3, -, -⟩ := Cond.noSuperclass_spec wr
    have ne := ids_ne q1 g1 h1
    refine ⟨c, t, q1, g1, fun fuel => ?_⟩
    cases fuel with
    | zero => rfl
    | succ f => simp [Vm.isSubclassAux, ne, q2, q3]
  obtain ⟨c, t', h0, g0, n3⟩ := NS.step w root h2
  cases g1.symm.trans g0
  obtain ⟨p, k, kp, r1, r2, r3, r4, r5, -, r7⟩ := Cond.superclass_spec h0 w
  have ne := ids_ne h0 g1 h2
  refine ⟨c, t, h0, g1, ?_⟩
  show Z.vm.assignableAux (255 + 1) c t = false
  have gi := (Bool.or_eq_false_iff.mp g4).1
  simp [Vm.assignableAux, ne, r2, g2, r5, g3, gi, Vm.isSubclass, n3]
end OwnHeap
end Jvm.RoadKit
namespace Jvm.Pilot.@@N@@
open Jvm Jvm.ClassFile Sem Op Lib Jvm.Free Jvm.Stand Jvm.LawKit Jvm.RoadKit Bundle Jvm.Pilot.@@N@@.Jvm.D
theorem d1_0 : decode prog_37_method_4_code 0 = .ok (.iload_n 0, 1) := by decide +kernel
theorem d1_1 : decode prog_37_method_4_code 1 = .ok (.bipush 32, 2) := by decide +kernel
theorem d1_3 : decode prog_37_method_4_code 3 = .ok (.if_icmp .lt 41, 3) := by decide +kernel
theorem d1_6 : decode prog_37_method_4_code 6 = .ok (.iload_n 0, 1) := by decide +kernel
theorem d1_7 : decode prog_37_method_4_code 7 = .ok (.ldc 24, 2) := by decide +kernel
theorem d1_9 : decode prog_37_method_4_code 9 = .ok (.if_icmp .le 27, 3) := by decide +kernel
theorem d1_12 : decode prog_37_method_4_code 12 = .ok (.iload_n 0, 1) := by decide +kernel
theorem d1_13 : decode prog_37_method_4_code 13 = .ok (.ldc 25, 2) := by decide +kernel
theorem d1_15 : decode prog_37_method_4_code 15 = .ok (.if_icmp .lt 9, 3) := by decide +kernel
theorem d1_18 : decode prog_37_method_4_code 18 = .ok (.iload_n 0, 1) := by decide +kernel
theorem d1_19 : decode prog_37_method_4_code 19 = .ok (.ldc 26, 2) := by decide +kernel
theorem d1_21 : decode prog_37_method_4_code 21 = .ok (.if_icmp .le 15, 3) := by decide +kernel
theorem d1_24 : decode prog_37_method_4_code 24 = .ok (.iload_n 0, 1) := by decide +kernel
theorem d1_25 : decode prog_37_method_4_code 25 = .ok (.ldc 27, 2) := by decide +kernel
theorem d1_27 : decode prog_37_method_4_code 27 = .ok (.if_icmp .lt 13, 3) := by decide +kernel
theorem d1_30 : decode prog_37_method_4_code 30 = .ok (.iload_n 0, 1) := by decide +kernel
theorem d1_31 : decode prog_37_method_4_code 31 = .ok (.ldc 28, 2) := by decide +kernel
theorem d1_33 : decode prog_37_method_4_code 33 = .ok (.if_icmp .gt 7, 3) := by decide +kernel
theorem d1_36 : decode prog_37_method_4_code 36 = .ok (.iconst 1, 1) := by decide +kernel
theorem d1_37 : decode prog_37_method_4_code 37 = .ok (.goto 30, 3) := by decide +kernel
theorem d1_40 : decode prog_37_method_4_code 40 = .ok (.iconst 0, 1) := by decide +kernel
theorem d1_41 : decode prog_37_method_4_code 41 = .ok (.goto 26, 3) := by decide +kernel
theorem d1_44 : decode prog_37_method_4_code 44 = .ok (.iload_n 0, 1) := by decide +kernel
theorem d1_45 : decode prog_37_method_4_code 45 = .ok (.bipush 9, 2) := by decide +kernel
theorem d1_47 : decode prog_37_method_4_code 47 = .ok (.if_icmp .eq 15, 3) := by decide +kernel
theorem d1_50 : decode prog_37_method_4_code 50 = .ok (.iload_n 0, 1) := by decide +kernel
theorem d1_51 : decode prog_37_method_4_code 51 = .ok (.bipush 10, 2) := by decide +kernel
theorem d1_53 : decode prog_37_method_4_code 53 = .ok (.if_icmp .eq 9, 3) := by decide +kernel
theorem d1_56 : decode prog_37_method_4_code 56 = .ok (.iload_n 0, 1) := by decide +kernel
theorem d1_57 : decode prog_37_method_4_code 57 = .ok (.bipush 13, 2) := by decide +kernel
theorem d1_59 : decode prog_37_method_4_code 59 = .ok (.if_icmp .ne 7, 3) := by decide +kernel
theorem d1_62 : decode prog_37_method_4_code 62 = .ok (.iconst 1, 1) := by decide +kernel
theorem d1_63 : decode prog_37_method_4_code 63 = .ok (.goto 4, 3) := by decide +kernel
theorem d1_66 : decode prog_37_method_4_code 66 = .ok (.iconst 0, 1) := by decide +kernel
theorem d1_67 : decode prog_37_method_4_code 67 = .ok (.ireturn, 1) := by decide +kernel
theorem pn_1 : plainName "com/example/frond2/frond2/XmlChars" = true := by first | (simp [plainName, overriddenIn]; done) | decide +kernel
theorem ef_1 (m : MethodId) (p1 : Int32) : entryFrame m #[(.int p1)] 1 = mkF m 0 #[.val (.int p1)] [] := by first | (simp [entryFrame, mkF, argsToLocals, Value.category]; done) | rfl
def f1_62 (p1 : Int32) : Int32 := (1 : Int32)
def f1_40 (p1 : Int32) : Int32 := (0 : Int32)
def f1_36 (p1 : Int32) : Int32 := (1 : Int32)
def f1_24 (p1 : Int32) : Int32 := (if (p1 < (65536 : Int32)) then (f1_40 p1) else (if ((1114111 : Int32) < p1) then (f1_40 p1) else (f1_36 p1)))
def f1 (p1 : Int32) : Int32 := (if (p1 < (32 : Int32)) then (if (p1 = (9 : Int32)) then (f1_62 p1) else (if (p1 = (10 : Int32)) then (f1_62 p1) else (if (p1 = (13 : Int32)) then (f1_62 p1) else (0 : Int32)))) else (if ((55295 : Int32) < p1) then (if (p1 < (57344 : Int32)) then (f1_24 p1) else (if ((65533 : Int32) < p1) then (f1_24 p1) else (f1_36 p1))) else (f1_36 p1)))
set_option maxRecDepth 65536 in
set_option maxHeartbeats 40000000 in
theorem rm1 (l : Launch) (Z : State) (a0 : Array Value) (hw : ∀ d ∈ tables_1, d.before a0 Z = true) (ws : List Jvm.Cond) (p1 : Int32) (h0 : Heap)  :
    MetFree l (⟨"com/example/frond2/frond2/XmlChars", "isChar", "(I)Z"⟩ : MethodName) (head1 (Jvm.Cond.code (⟨"com/example/frond2/frond2/XmlChars", "isChar", "(I)Z"⟩ : MethodName) prog_37_method_4_code 1 (some .boolean) :: ws) ({ frames := 0, cells := 0, slots := 0, locals := 0 } : Room)) (fun a U => a = #[(.int p1)] ∧ Z.Warmed39 U.vm ∧ U.heap = h0) (fun _ _ _ _ _ => True) (fun _ U o U' => ∃ v L, o = .returned v ∧ PI h0 (f1 p1) v U'.heap L ∧ FrameEnd U o U' L ({ frames := 0, cells := 0, slots := 0, locals := 0 } : Room).cells ({ frames := 0, cells := 0, slots := 0, locals := 0 } : Room).slots) := by
  refine MetFree.of_bodySF (plainFor_of_name pn_1) hisR ?_
  intro p e s m args below meth c s₁ Bd hml0 hP hK
  obtain ⟨rfl, hZ, hh⟩ := hP
  have hx := Bd.exec
  have hby := Bd.bytes
  have hlk := Bd.notSynchronized
  have hml : c.maxLocals = 1 := hml0
  have hown : s.vm.findClass "com/example/frond2/frond2/XmlChars" = some m.cls := findClass_of_methodNamed Bd.named
  have X0 : Stand p l e ({ frames := 0, cells := 0, slots := 0, locals := 0 } : Room) s m #[(.int p1)] below meth c s₁ [] 0 0 := Stand.of_body Bd
  have e0 : s₁.heap = h0 := by rw [← hh, Bd.state]; rfl
  have B62 : ∀ (T : State), Stand p l e ({ frames := 0, cells := 0, slots := 0, locals := 0 } : Room) s m #[(.int p1)] below meth c T [] 0 0 → T.heap = h0 → ∀ (_ : True), Goes p e below s ({ frames := 0, cells := 0, slots := 0, locals := 0 } : Room).cells ({ frames := 0, cells := 0, slots := 0, locals := 0 } : Room).slots (PI h0 (f1_62 p1)) T (mkF m 62 #[.val (.int p1)] []) := by
    intro T X eT _
    refine Goes.step (fun _ k => XS.iconst X.here hx rfl (hb hby d1_62) k) ?_
    show Goes p e below s _ _ _ T (mkF m 63 #[.val (.int p1)] [(.int (1 : Int32))])
    refine Goes.step (fun _ k => XS.goto X.here hx rfl (pc0 := 63) (pc' := 67) rfl (hb hby d1_63) (by decide) (by decide) k) ?_
    show Goes p e below s _ _ _ T (mkF m 67 #[.val (.int p1)] [(.int (1 : Int32))])
    exact Goes.outN X hx hlk (t := .boolean) Bd.returns (by simp) (hb hby d1_67) ⟨rfl, rfl, eT⟩ (by decide) (by decide)
  have B40 : ∀ (T : State), Stand p l e ({ frames := 0, cells := 0, slots := 0, locals := 0 } : Room) s m #[(.int p1)] below meth c T [] 0 0 → T.heap = h0 → ∀ (_ : True), Goes p e below s ({ frames := 0, cells := 0, slots := 0, locals := 0 } : Room).cells ({ frames := 0, cells := 0, slots := 0, locals := 0 } : Room).slots (PI h0 (f1_40 p1)) T (mkF m 40 #[.val (.int p1)] []) := by
    intro T X eT _
    refine Goes.step (fun _ k => XS.iconst X.here hx rfl (hb hby d1_40) k) ?_
    show Goes p e below s _ _ _ T (mkF m 41 #[.val (.int p1)] [(.int (0 : Int32))])
    refine Goes.step (fun _ k => XS.goto X.here hx rfl (pc0 := 41) (pc' := 67) rfl (hb hby d1_41) (by decide) (by decide) k) ?_
    show Goes p e below s _ _ _ T (mkF m 67 #[.val (.int p1)] [(.int (0 : Int32))])
    exact Goes.outN X hx hlk (t := .boolean) Bd.returns (by simp) (hb hby d1_67) ⟨rfl, rfl, eT⟩ (by decide) (by decide)
  have B36 : ∀ (T : State), Stand p l e ({ frames := 0, cells := 0, slots := 0, locals := 0 } : Room) s m #[(.int p1)] below meth c T [] 0 0 → T.heap = h0 → ∀ (_ : True), Goes p e below s ({ frames := 0, cells := 0, slots := 0, locals := 0 } : Room).cells ({ frames := 0, cells := 0, slots := 0, locals := 0 } : Room).slots (PI h0 (f1_36 p1)) T (mkF m 36 #[.val (.int p1)] []) := by
    intro T X eT _
    refine Goes.step (fun _ k => XS.iconst X.here hx rfl (hb hby d1_36) k) ?_
    show Goes p e below s _ _ _ T (mkF m 37 #[.val (.int p1)] [(.int (1 : Int32))])
    refine Goes.step (fun _ k => XS.goto X.here hx rfl (pc0 := 37) (pc' := 67) rfl (hb hby d1_37) (by decide) (by decide) k) ?_
    show Goes p e below s _ _ _ T (mkF m 67 #[.val (.int p1)] [(.int (1 : Int32))])
    exact Goes.outN X hx hlk (t := .boolean) Bd.returns (by simp) (hb hby d1_67) ⟨rfl, rfl, eT⟩ (by decide) (by decide)
  have B24 : ∀ (T : State), Stand p l e ({ frames := 0, cells := 0, slots := 0, locals := 0 } : Room) s m #[(.int p1)] below meth c T [] 0 0 → T.heap = h0 → ∀ (_ : True), Goes p e below s ({ frames := 0, cells := 0, slots := 0, locals := 0 } : Room).cells ({ frames := 0, cells := 0, slots := 0, locals := 0 } : Room).slots (PI h0 (f1_24 p1)) T (mkF m 24 #[.val (.int p1)] []) := by
    intro T X eT _
    refine Goes.step (fun _ k => XS.iloadN X.here hx rfl (hb hby d1_24) rfl k) ?_
    show Goes p e below s _ _ _ T (mkF m 25 #[.val (.int p1)] [(.int p1)])
    refine Goes.step (fun _ k => X.ldcInt hx hown (mvT hZ (hw _ (List.mem_of_getElem? (i := 22) rfl))) (g := (mkF m 25 #[.val (.int p1)] [(.int p1)])) rfl (hb hby d1_25) _ k) ?_
    show Goes p e below s _ _ _ T (mkF m 27 #[.val (.int p1)] [(.int (65536 : Int32)), (.int p1)])
    refine Goes.ite (Q := PI h0) (fun hc27 => ?_) (fun hc27 => ?_)
    · refine Goes.step (fun _ k => XS.icmpYes X.here hx rfl (pc0 := 27) (pc' := 40) rfl (hb hby d1_27) rfl (tlt hc27).1 (by decide) (by decide) k) ?_
      show Goes p e below s _ _ _ T (mkF m 40 #[.val (.int p1)] [])
      exact B40 T X eT trivial
    · refine Goes.step (fun _ k => XS.icmpNo X.here hx rfl (hb hby d1_27) rfl (flt hc27).1 k) ?_
      show Goes p e below s _ _ _ T (mkF m 30 #[.val (.int p1)] [])
      refine Goes.step (fun _ k => XS.iloadN X.here hx rfl (hb hby d1_30) rfl k) ?_
      show Goes p e below s _ _ _ T (mkF m 31 #[.val (.int p1)] [(.int p1)])
      refine Goes.step (fun _ k => X.ldcInt hx hown (mvT hZ (hw _ (List.mem_of_getElem? (i := 23) rfl))) (g := (mkF m 31 #[.val (.int p1)] [(.int p1)])) rfl (hb hby d1_31) _ k) ?_
      show Goes p e below s _ _ _ T (mkF m 33 #[.val (.int p1)] [(.int (1114111 : Int32)), (.int p1)])
      refine Goes.ite (Q := PI h0) (fun hc33 => ?_) (fun hc33 => ?_)
      · refine Goes.step (fun _ k => XS.icmpYes X.here hx rfl (pc0 := 33) (pc' := 40) rfl (hb hby d1_33) rfl (tlt hc33).2.2.1 (by decide) (by decide) k) ?_
        show Goes p e below s _ _ _ T (mkF m 40 #[.val (.int p1)] [])
        exact B40 T X eT trivial
      · refine Goes.step (fun _ k => XS.icmpNo X.here hx rfl (hb hby d1_33) rfl (flt hc33).2.2.1 k) ?_
        show Goes p e below s _ _ _ T (mkF m 36 #[.val (.int p1)] [])
        exact B36 T X eT trivial
  show Goes p e below s ({ frames := 0, cells := 0, slots := 0, locals := 0 } : Room).cells ({ frames := 0, cells := 0, slots := 0, locals := 0 } : Room).slots (PI h0 (f1 p1)) s₁ (entryFrame m #[(.int p1)] 1)
  refine Goes.step (fun t k => castTop (ef_1 m p1) k) ?_
  refine Goes.step (fun _ k => XS.iloadN X0.here hx rfl (hb hby d1_0) rfl k) ?_
  show Goes p e below s _ _ _ s₁ (mkF m 1 #[.val (.int p1)] [(.int p1)])
  refine Goes.step (fun _ k => XS.bipush X0.here hx rfl (hb hby d1_1) k) ?_
  show Goes p e below s _ _ _ s₁ (mkF m 3 #[.val (.int p1)] [(.int (32 : Int32)), (.int p1)])
  refine Goes.ite (Q := PI h0) (fun hc3 => ?_) (fun hc3 => ?_)
  · refine Goes.step (fun _ k => XS.icmpYes X0.here hx rfl (pc0 := 3) (pc' := 44) rfl (hb hby d1_3) rfl (tlt hc3).1 (by decide) (by decide) k) ?_
    show Goes p e below s _ _ _ s₁ (mkF m 44 #[.val (.int p1)] [])
    refine Goes.step (fun _ k => XS.iloadN X0.here hx rfl (hb hby d1_44) rfl k) ?_
    show Goes p e below s _ _ _ s₁ (mkF m 45 #[.val (.int p1)] [(.int p1)])
    refine Goes.step (fun _ k => XS.bipush X0.here hx rfl (hb hby d1_45) k) ?_
    show Goes p e below s _ _ _ s₁ (mkF m 47 #[.val (.int p1)] [(.int (9 : Int32)), (.int p1)])
    refine Goes.ite (Q := PI h0) (fun hc47 => ?_) (fun hc47 => ?_)
    · refine Goes.step (fun _ k => XS.icmpYes X0.here hx rfl (pc0 := 47) (pc' := 62) rfl (hb hby d1_47) rfl (teq hc47).1 (by decide) (by decide) k) ?_
      show Goes p e below s _ _ _ s₁ (mkF m 62 #[.val (.int p1)] [])
      exact B62 s₁ X0 e0 trivial
    · refine Goes.step (fun _ k => XS.icmpNo X0.here hx rfl (hb hby d1_47) rfl (feq hc47).1 k) ?_
      show Goes p e below s _ _ _ s₁ (mkF m 50 #[.val (.int p1)] [])
      refine Goes.step (fun _ k => XS.iloadN X0.here hx rfl (hb hby d1_50) rfl k) ?_
      show Goes p e below s _ _ _ s₁ (mkF m 51 #[.val (.int p1)] [(.int p1)])
      refine Goes.step (fun _ k => XS.bipush X0.here hx rfl (hb hby d1_51) k) ?_
      show Goes p e below s _ _ _ s₁ (mkF m 53 #[.val (.int p1)] [(.int (10 : Int32)), (.int p1)])
      refine Goes.ite (Q := PI h0) (fun hc53 => ?_) (fun hc53 => ?_)
      · refine Goes.step (fun _ k => XS.icmpYes X0.here hx rfl (pc0 := 53) (pc' := 62) rfl (hb hby d1_53) rfl (teq hc53).1 (by decide) (by decide) k) ?_
        show Goes p e below s _ _ _ s₁ (mkF m 62 #[.val (.int p1)] [])
        exact B62 s₁ X0 e0 trivial
      · refine Goes.step (fun _ k => XS.icmpNo X0.here hx rfl (hb hby d1_53) rfl (feq hc53).1 k) ?_
        show Goes p e below s _ _ _ s₁ (mkF m 56 #[.val (.int p1)] [])
        refine Goes.step (fun _ k => XS.iloadN X0.here hx rfl (hb hby d1_56) rfl k) ?_
        show Goes p e below s _ _ _ s₁ (mkF m 57 #[.val (.int p1)] [(.int p1)])
        refine Goes.step (fun _ k => XS.bipush X0.here hx rfl (hb hby d1_57) k) ?_
        show Goes p e below s _ _ _ s₁ (mkF m 59 #[.val (.int p1)] [(.int (13 : Int32)), (.int p1)])
        refine Goes.ite (Q := PI h0) (fun hc59 => ?_) (fun hc59 => ?_)
        · refine Goes.step (fun _ k => XS.icmpNo X0.here hx rfl (hb hby d1_59) rfl (teq hc59).2 k) ?_
          show Goes p e below s _ _ _ s₁ (mkF m 62 #[.val (.int p1)] [])
          exact B62 s₁ X0 e0 trivial
        · refine Goes.step (fun _ k => XS.icmpYes X0.here hx rfl (pc0 := 59) (pc' := 66) rfl (hb hby d1_59) rfl (feq hc59).2 (by decide) (by decide) k) ?_
          show Goes p e below s _ _ _ s₁ (mkF m 66 #[.val (.int p1)] [])
          refine Goes.step (fun _ k => XS.iconst X0.here hx rfl (hb hby d1_66) k) ?_
          show Goes p e below s _ _ _ s₁ (mkF m 67 #[.val (.int p1)] [(.int (0 : Int32))])
          exact Goes.outN X0 hx hlk (t := .boolean) Bd.returns (by simp) (hb hby d1_67) ⟨rfl, rfl, e0⟩ (by decide) (by decide)
  · refine Goes.step (fun _ k => XS.icmpNo X0.here hx rfl (hb hby d1_3) rfl (flt hc3).1 k) ?_
    show Goes p e below s _ _ _ s₁ (mkF m 6 #[.val (.int p1)] [])
    refine Goes.step (fun _ k => XS.iloadN X0.here hx rfl (hb hby d1_6) rfl k) ?_
    show Goes p e below s _ _ _ s₁ (mkF m 7 #[.val (.int p1)] [(.int p1)])
    refine Goes.step (fun _ k => X0.ldcInt hx hown (mvT hZ (hw _ (List.mem_of_getElem? (i := 19) rfl))) (g := (mkF m 7 #[.val (.int p1)] [(.int p1)])) rfl (hb hby d1_7) _ k) ?_
    show Goes p e below s _ _ _ s₁ (mkF m 9 #[.val (.int p1)] [(.int (55295 : Int32)), (.int p1)])
    refine Goes.ite (Q := PI h0) (fun hc9 => ?_) (fun hc9 => ?_)
    · refine Goes.step (fun _ k => XS.icmpNo X0.here hx rfl (hb hby d1_9) rfl (tlt hc9).2.2.2 k) ?_
      show Goes p e below s _ _ _ s₁ (mkF m 12 #[.val (.int p1)] [])
      refine Goes.step (fun _ k => XS.iloadN X0.here hx rfl (hb hby d1_12) rfl k) ?_
      show Goes p e below s _ _ _ s₁ (mkF m 13 #[.val (.int p1)] [(.int p1)])
      refine Goes.step (fun _ k => X0.ldcInt hx hown (mvT hZ (hw _ (List.mem_of_getElem? (i := 20) rfl))) (g := (mkF m 13 #[.val (.int p1)] [(.int p1)])) rfl (hb hby d1_13) _ k) ?_
      show Goes p e below s _ _ _ s₁ (mkF m 15 #[.val (.int p1)] [(.int (57344 : Int32)), (.int p1)])
      refine Goes.ite (Q := PI h0) (fun hc15 => ?_) (fun hc15 => ?_)
      · refine Goes.step (fun _ k => XS.icmpYes X0.here hx rfl (pc0 := 15) (pc' := 24) rfl (hb hby d1_15) rfl (tlt hc15).1 (by decide) (by decide) k) ?_
        show Goes p e below s _ _ _ s₁ (mkF m 24 #[.val (.int p1)] [])
        exact B24 s₁ X0 e0 trivial
      · refine Goes.step (fun _ k => XS.icmpNo X0.here hx rfl (hb hby d1_15) rfl (flt hc15).1 k) ?_
        show Goes p e below s _ _ _ s₁ (mkF m 18 #[.val (.int p1)] [])
        refine Goes.step (fun _ k => XS.iloadN X0.here hx rfl (hb hby d1_18) rfl k) ?_
        show Goes p e below s _ _ _ s₁ (mkF m 19 #[.val (.int p1)] [(.int p1)])
        refine Goes.step (fun _ k => X0.ldcInt hx hown (mvT hZ (hw _ (List.mem_of_getElem? (i := 21) rfl))) (g := (mkF m 19 #[.val (.int p1)] [(.int p1)])) rfl (hb hby d1_19) _ k) ?_
        show Goes p e below s _ _ _ s₁ (mkF m 21 #[.val (.int p1)] [(.int (65533 : Int32)), (.int p1)])
        refine Goes.ite (Q := PI h0) (fun hc21 => ?_) (fun hc21 => ?_)
        · refine Goes.step (fun _ k => XS.icmpNo X0.here hx rfl (hb hby d1_21) rfl (tlt hc21).2.2.2 k) ?_
          show Goes p e below s _ _ _ s₁ (mkF m 24 #[.val (.int p1)] [])
          exact B24 s₁ X0 e0 trivial
        · refine Goes.step (fun _ k => XS.icmpYes X0.here hx rfl (pc0 := 21) (pc' := 36) rfl (hb hby d1_21) rfl (flt hc21).2.2.2 (by decide) (by decide) k) ?_
          show Goes p e below s _ _ _ s₁ (mkF m 36 #[.val (.int p1)] [])
          exact B36 s₁ X0 e0 trivial
    · refine Goes.step (fun _ k => XS.icmpYes X0.here hx rfl (pc0 := 9) (pc' := 36) rfl (hb hby d1_9) rfl (flt hc9).2.2.2 (by decide) (by decide) k) ?_
      show Goes p e below s _ _ _ s₁ (mkF m 36 #[.val (.int p1)] [])
      exact B36 s₁ X0 e0 trivial
theorem d2_0 : decode method_2_code 0 = .ok (.iload_n 0, 1) := by decide +kernel
theorem d2_1 : decode method_2_code 1 = .ok (.bipush 9, 2) := by decide +kernel
theorem d2_3 : decode method_2_code 3 = .ok (.if_icmp .ne 5, 3) := by decide +kernel
theorem d2_6 : decode method_2_code 6 = .ok (.iconst 1, 1) := by decide +kernel
theorem d2_7 : decode method_2_code 7 = .ok (.ireturn, 1) := by decide +kernel
theorem d2_8 : decode method_2_code 8 = .ok (.iload_n 0, 1) := by decide +kernel
theorem d2_9 : decode method_2_code 9 = .ok (.bipush 10, 2) := by decide +kernel
theorem d2_11 : decode method_2_code 11 = .ok (.if_icmp .ne 5, 3) := by decide +kernel
theorem d2_14 : decode method_2_code 14 = .ok (.iconst 1, 1) := by decide +kernel
theorem d2_15 : decode method_2_code 15 = .ok (.ireturn, 1) := by decide +kernel
theorem d2_16 : decode method_2_code 16 = .ok (.iload_n 0, 1) := by decide +kernel
theorem d2_17 : decode method_2_code 17 = .ok (.bipush 13, 2) := by decide +kernel
theorem d2_19 : decode method_2_code 19 = .ok (.if_icmp .ne 5, 3) := by decide +kernel
theorem d2_22 : decode method_2_code 22 = .ok (.iconst 1, 1) := by decide +kernel
theorem d2_23 : decode method_2_code 23 = .ok (.ireturn, 1) := by decide +kernel
theorem d2_24 : decode method_2_code 24 = .ok (.bipush 32, 2) := by decide +kernel
theorem d2_26 : decode method_2_code 26 = .ok (.iload_n 0, 1) := by decide +kernel
theorem d2_27 : decode method_2_code 27 = .ok (.if_icmp .gt 11, 3) := by decide +kernel
theorem d2_30 : decode method_2_code 30 = .ok (.iload_n 0, 1) := by decide +kernel
theorem d2_31 : decode method_2_code 31 = .ok (.ldc 7, 2) := by decide +kernel
theorem d2_33 : decode method_2_code 33 = .ok (.if_icmp .gt 5, 3) := by decide +kernel
theorem d2_36 : decode method_2_code 36 = .ok (.iconst 1, 1) := by decide +kernel
theorem d2_37 : decode method_2_code 37 = .ok (.ireturn, 1) := by decide +kernel
theorem d2_38 : decode method_2_code 38 = .ok (.ldc 8, 2) := by decide +kernel
theorem d2_40 : decode method_2_code 40 = .ok (.iload_n 0, 1) := by decide +kernel
theorem d2_41 : decode method_2_code 41 = .ok (.if_icmp .gt 11, 3) := by decide +kernel
theorem d2_44 : decode method_2_code 44 = .ok (.iload_n 0, 1) := by decide +kernel
theorem d2_45 : decode method_2_code 45 = .ok (.ldc 9, 2) := by decide +kernel
theorem d2_47 : decode method_2_code 47 = .ok (.if_icmp .gt 5, 3) := by decide +kernel
theorem d2_50 : decode method_2_code 50 = .ok (.iconst 1, 1) := by decide +kernel
theorem d2_51 : decode method_2_code 51 = .ok (.ireturn, 1) := by decide +kernel
theorem d2_52 : decode method_2_code 52 = .ok (.ldc 10, 2) := by decide +kernel
theorem d2_54 : decode method_2_code 54 = .ok (.iload_n 0, 1) := by decide +kernel
theorem d2_55 : decode method_2_code 55 = .ok (.if_icmp .gt 11, 3) := by decide +kernel
theorem d2_58 : decode method_2_code 58 = .ok (.iload_n 0, 1) := by decide +kernel
theorem d2_59 : decode method_2_code 59 = .ok (.ldc 11, 2) := by decide +kernel
theorem d2_61 : decode method_2_code 61 = .ok (.if_icmp .gt 5, 3) := by decide +kernel
theorem d2_64 : decode method_2_code 64 = .ok (.iconst 1, 1) := by decide +kernel
theorem d2_65 : decode method_2_code 65 = .ok (.ireturn, 1) := by decide +kernel
theorem d2_66 : decode method_2_code 66 = .ok (.iconst 0, 1) := by decide +kernel
theorem d2_67 : decode method_2_code 67 = .ok (.ireturn, 1) := by decide +kernel
theorem pn_2 : plainName "com/example/frond2/frond2/XmlCharsIsCharPinLaw" = true := by first | (simp [plainName, overriddenIn]; done) | decide +kernel
theorem ef_2 (m : MethodId) (p1 : Int32) : entryFrame m #[(.int p1)] 1 = mkF m 0 #[.val (.int p1)] [] := by first | (simp [entryFrame, mkF, argsToLocals, Value.category]; done) | rfl
def f2_66 (p1 : Int32) : Int32 := (0 : Int32)
def f2_52 (p1 : Int32) : Int32 := (if (p1 < (65536 : Int32)) then (f2_66 p1) else (if ((1114111 : Int32) < p1) then (f2_66 p1) else (1 : Int32)))
def f2_38 (p1 : Int32) : Int32 := (if (p1 < (57344 : Int32)) then (f2_52 p1) else (if ((65533 : Int32) < p1) then (f2_52 p1) else (1 : Int32)))
def f2 (p1 : Int32) : Int32 := (if (p1 = (9 : Int32)) then (1 : Int32) else (if (p1 = (10 : Int32)) then (1 : Int32) else (if (p1 = (13 : Int32)) then (1 : Int32) else (if (p1 < (32 : Int32)) then (f2_38 p1) else (if ((55295 : Int32) < p1) then (f2_38 p1) else (1 : Int32))))))
set_option maxRecDepth 65536 in
set_option maxHeartbeats 40000000 in
theorem rm2 (l : Launch) (Z : State) (a0 : Array Value) (hw : ∀ d ∈ tables_1, d.before a0 Z = true) (ws : List Jvm.Cond) (p1 : Int32) (h0 : Heap)  :
    MetFree l (⟨"com/example/frond2/frond2/XmlCharsIsCharPinLaw", "reference", "(I)Z"⟩ : MethodName) (head1 (Jvm.Cond.code (⟨"com/example/frond2/frond2/XmlCharsIsCharPinLaw", "reference", "(I)Z"⟩ : MethodName) method_2_code 1 (some .boolean) :: ws) ({ frames := 0, cells := 0, slots := 0, locals := 0 } : Room)) (fun a U => a = #[(.int p1)] ∧ Z.Warmed39 U.vm ∧ U.heap = h0) (fun _ _ _ _ _ => True) (fun _ U o U' => ∃ v L, o = .returned v ∧ PI h0 (f2 p1) v U'.heap L ∧ FrameEnd U o U' L ({ frames := 0, cells := 0, slots := 0, locals := 0 } : Room).cells ({ frames := 0, cells := 0, slots := 0, locals := 0 } : Room).slots) := by
  refine MetFree.of_bodySF (plainFor_of_name pn_2) hisR ?_
  intro p e s m args below meth c s₁ Bd hml0 hP hK
  obtain ⟨rfl, hZ, hh⟩ := hP
  have hx := Bd.exec
  have hby := Bd.bytes
  have hlk := Bd.notSynchronized
  have hml : c.maxLocals = 1 := hml0
  have hown : s.vm.findClass "com/example/frond2/frond2/XmlCharsIsCharPinLaw" = some m.cls := findClass_of_methodNamed Bd.named
  have X0 : Stand p l e ({ frames := 0, cells := 0, slots := 0, locals := 0 } : Room) s m #[(.int p1)] below meth c s₁ [] 0 0 := Stand.of_body Bd
  have e0 : s₁.heap = h0 := by rw [← hh, Bd.state]; rfl
  have B66 : ∀ (T : State), Stand p l e ({ frames := 0, cells := 0, slots := 0, locals := 0 } : Room) s m #[(.int p1)] below meth c T [] 0 0 → T.heap = h0 → ∀ (_ : True), Goes p e below s ({ frames := 0, cells := 0, slots := 0, locals := 0 } : Room).cells ({ frames := 0, cells := 0, slots := 0, locals := 0 } : Room).slots (PI h0 (f2_66 p1)) T (mkF m 66 #[.val (.int p1)] []) := by
    intro T X eT _
    refine Goes.step (fun _ k => XS.iconst X.here hx rfl (hb hby d2_66) k) ?_
    show Goes p e below s _ _ _ T (mkF m 67 #[.val (.int p1)] [(.int (0 : Int32))])
    exact Goes.outN X hx hlk (t := .boolean) Bd.returns (by simp) (hb hby d2_67) ⟨rfl, rfl, eT⟩ (by decide) (by decide)
  have B52 : ∀ (T : State), Stand p l e ({ frames := 0, cells := 0, slots := 0, locals := 0 } : Room) s m #[(.int p1)] below meth c T [] 0 0 → T.heap = h0 → ∀ (_ : True), Goes p e below s ({ frames := 0, cells := 0, slots := 0, locals := 0 } : Room).cells ({ frames := 0, cells := 0, slots := 0, locals := 0 } : Room).slots (PI h0 (f2_52 p1)) T (mkF m 52 #[.val (.int p1)] []) := by
    intro T X eT _
    refine Goes.step (fun _ k => X.ldcInt hx hown (mvT hZ (hw _ (List.mem_of_getElem? (i := 7) rfl))) (g := (mkF m 52 #[.val (.int p1)] [])) rfl (hb hby d2_52) _ k) ?_
    show Goes p e below s _ _ _ T (mkF m 54 #[.val (.int p1)] [(.int (65536 : Int32))])
    refine Goes.step (fun _ k => XS.iloadN X.here hx rfl (hb hby d2_54) rfl k) ?_
    show Goes p e below s _ _ _ T (mkF m 55 #[.val (.int p1)] [(.int p1), (.int (65536 : Int32))])
    refine Goes.ite (Q := PI h0) (fun hc55 => ?_) (fun hc55 => ?_)
    · refine Goes.step (fun _ k => XS.icmpYes X.here hx rfl (pc0 := 55) (pc' := 66) rfl (hb hby d2_55) rfl (tlt hc55).2.2.1 (by decide) (by decide) k) ?_
      show Goes p e below s _ _ _ T (mkF m 66 #[.val (.int p1)] [])
      exact B66 T X eT trivial
    · refine Goes.step (fun _ k => XS.icmpNo X.here hx rfl (hb hby d2_55) rfl (flt hc55).2.2.1 k) ?_
      show Goes p e below s _ _ _ T (mkF m 58 #[.val (.int p1)] [])
      refine Goes.step (fun _ k => XS.iloadN X.here hx rfl (hb hby d2_58) rfl k) ?_
      show Goes p e below s _ _ _ T (mkF m 59 #[.val (.int p1)] [(.int p1)])
      refine Goes.step (fun _ k => X.ldcInt hx hown (mvT hZ (hw _ (List.mem_of_getElem? (i := 8) rfl))) (g := (mkF m 59 #[.val (.int p1)] [(.int p1)])) rfl (hb hby d2_59) _ k) ?_
      show Goes p e below s _ _ _ T (mkF m 61 #[.val (.int p1)] [(.int (1114111 : Int32)), (.int p1)])
      refine Goes.ite (Q := PI h0) (fun hc61 => ?_) (fun hc61 => ?_)
      · refine Goes.step (fun _ k => XS.icmpYes X.here hx rfl (pc0 := 61) (pc' := 66) rfl (hb hby d2_61) rfl (tlt hc61).2.2.1 (by decide) (by decide) k) ?_
        show Goes p e below s _ _ _ T (mkF m 66 #[.val (.int p1)] [])
        exact B66 T X eT trivial
      · refine Goes.step (fun _ k => XS.icmpNo X.here hx rfl (hb hby d2_61) rfl (flt hc61).2.2.1 k) ?_
        show Goes p e below s _ _ _ T (mkF m 64 #[.val (.int p1)] [])
        refine Goes.step (fun _ k => XS.iconst X.here hx rfl (hb hby d2_64) k) ?_
        show Goes p e below s _ _ _ T (mkF m 65 #[.val (.int p1)] [(.int (1 : Int32))])
        exact Goes.outN X hx hlk (t := .boolean) Bd.returns (by simp) (hb hby d2_65) ⟨rfl, rfl, eT⟩ (by decide) (by decide)
  have B38 : ∀ (T : State), Stand p l e ({ frames := 0, cells := 0, slots := 0, locals := 0 } : Room) s m #[(.int p1)] below meth c T [] 0 0 → T.heap = h0 → ∀ (_ : True), Goes p e below s ({ frames := 0, cells := 0, slots := 0, locals := 0 } : Room).cells ({ frames := 0, cells := 0, slots := 0, locals := 0 } : Room).slots (PI h0 (f2_38 p1)) T (mkF m 38 #[.val (.int p1)] []) := by
    intro T X eT _
    refine Goes.step (fun _ k => X.ldcInt hx hown (mvT hZ (hw _ (List.mem_of_getElem? (i := 4) rfl))) (g := (mkF m 38 #[.val (.int p1)] [])) rfl (hb hby d2_38) _ k) ?_
    show Goes p e below s _ _ _ T (mkF m 40 #[.val (.int p1)] [(.int (57344 : Int32))])
    refine Goes.step (fun _ k => XS.iloadN X.here hx rfl (hb hby d2_40) rfl k) ?_
    show Goes p e below s _ _ _ T (mkF m 41 #[.val (.int p1)] [(.int p1), (.int (57344 : Int32))])
    refine Goes.ite (Q := PI h0) (fun hc41 => ?_) (fun hc41 => ?_)
    · refine Goes.step (fun _ k => XS.icmpYes X.here hx rfl (pc0 := 41) (pc' := 52) rfl (hb hby d2_41) rfl (tlt hc41).2.2.1 (by decide) (by decide) k) ?_
      show Goes p e below s _ _ _ T (mkF m 52 #[.val (.int p1)] [])
      exact B52 T X eT trivial
    · refine Goes.step (fun _ k => XS.icmpNo X.here hx rfl (hb hby d2_41) rfl (flt hc41).2.2.1 k) ?_
      show Goes p e below s _ _ _ T (mkF m 44 #[.val (.int p1)] [])
      refine Goes.step (fun _ k => XS.iloadN X.here hx rfl (hb hby d2_44) rfl k) ?_
      show Goes p e below s _ _ _ T (mkF m 45 #[.val (.int p1)] [(.int p1)])
      refine Goes.step (fun _ k => X.ldcInt hx hown (mvT hZ (hw _ (List.mem_of_getElem? (i := 5) rfl))) (g := (mkF m 45 #[.val (.int p1)] [(.int p1)])) rfl (hb hby d2_45) _ k) ?_
      show Goes p e below s _ _ _ T (mkF m 47 #[.val (.int p1)] [(.int (65533 : Int32)), (.int p1)])
      refine Goes.ite (Q := PI h0) (fun hc47 => ?_) (fun hc47 => ?_)
      · refine Goes.step (fun _ k => XS.icmpYes X.here hx rfl (pc0 := 47) (pc' := 52) rfl (hb hby d2_47) rfl (tlt hc47).2.2.1 (by decide) (by decide) k) ?_
        show Goes p e below s _ _ _ T (mkF m 52 #[.val (.int p1)] [])
        exact B52 T X eT trivial
      · refine Goes.step (fun _ k => XS.icmpNo X.here hx rfl (hb hby d2_47) rfl (flt hc47).2.2.1 k) ?_
        show Goes p e below s _ _ _ T (mkF m 50 #[.val (.int p1)] [])
        refine Goes.step (fun _ k => XS.iconst X.here hx rfl (hb hby d2_50) k) ?_
        show Goes p e below s _ _ _ T (mkF m 51 #[.val (.int p1)] [(.int (1 : Int32))])
        exact Goes.outN X hx hlk (t := .boolean) Bd.returns (by simp) (hb hby d2_51) ⟨rfl, rfl, eT⟩ (by decide) (by decide)
  show Goes p e below s ({ frames := 0, cells := 0, slots := 0, locals := 0 } : Room).cells ({ frames := 0, cells := 0, slots := 0, locals := 0 } : Room).slots (PI h0 (f2 p1)) s₁ (entryFrame m #[(.int p1)] 1)
  refine Goes.step (fun t k => castTop (ef_2 m p1) k) ?_
  refine Goes.step (fun _ k => XS.iloadN X0.here hx rfl (hb hby d2_0) rfl k) ?_
  show Goes p e below s _ _ _ s₁ (mkF m 1 #[.val (.int p1)] [(.int p1)])
  refine Goes.step (fun _ k => XS.bipush X0.here hx rfl (hb hby d2_1) k) ?_
  show Goes p e below s _ _ _ s₁ (mkF m 3 #[.val (.int p1)] [(.int (9 : Int32)), (.int p1)])
  refine Goes.ite (Q := PI h0) (fun hc3 => ?_) (fun hc3 => ?_)
  · refine Goes.step (fun _ k => XS.icmpNo X0.here hx rfl (hb hby d2_3) rfl (teq hc3).2 k) ?_
    show Goes p e below s _ _ _ s₁ (mkF m 6 #[.val (.int p1)] [])
    refine Goes.step (fun _ k => XS.iconst X0.here hx rfl (hb hby d2_6) k) ?_
    show Goes p e below s _ _ _ s₁ (mkF m 7 #[.val (.int p1)] [(.int (1 : Int32))])
    exact Goes.outN X0 hx hlk (t := .boolean) Bd.returns (by simp) (hb hby d2_7) ⟨rfl, rfl, e0⟩ (by decide) (by decide)
  · refine Goes.step (fun _ k => XS.icmpYes X0.here hx rfl (pc0 := 3) (pc' := 8) rfl (hb hby d2_3) rfl (feq hc3).2 (by decide) (by decide) k) ?_
    show Goes p e below s _ _ _ s₁ (mkF m 8 #[.val (.int p1)] [])
    refine Goes.step (fun _ k => XS.iloadN X0.here hx rfl (hb hby d2_8) rfl k) ?_
    show Goes p e below s _ _ _ s₁ (mkF m 9 #[.val (.int p1)] [(.int p1)])
    refine Goes.step (fun _ k => XS.bipush X0.here hx rfl (hb hby d2_9) k) ?_
    show Goes p e below s _ _ _ s₁ (mkF m 11 #[.val (.int p1)] [(.int (10 : Int32)), (.int p1)])
    refine Goes.ite (Q := PI h0) (fun hc11 => ?_) (fun hc11 => ?_)
    · refine Goes.step (fun _ k => XS.icmpNo X0.here hx rfl (hb hby d2_11) rfl (teq hc11).2 k) ?_
      show Goes p e below s _ _ _ s₁ (mkF m 14 #[.val (.int p1)] [])
      refine Goes.step (fun _ k => XS.iconst X0.here hx rfl (hb hby d2_14) k) ?_
      show Goes p e below s _ _ _ s₁ (mkF m 15 #[.val (.int p1)] [(.int (1 : Int32))])
      exact Goes.outN X0 hx hlk (t := .boolean) Bd.returns (by simp) (hb hby d2_15) ⟨rfl, rfl, e0⟩ (by decide) (by decide)
    · refine Goes.step (fun _ k => XS.icmpYes X0.here hx rfl (pc0 := 11) (pc' := 16) rfl (hb hby d2_11) rfl (feq hc11).2 (by decide) (by decide) k) ?_
      show Goes p e below s _ _ _ s₁ (mkF m 16 #[.val (.int p1)] [])
      refine Goes.step (fun _ k => XS.iloadN X0.here hx rfl (hb hby d2_16) rfl k) ?_
      show Goes p e below s _ _ _ s₁ (mkF m 17 #[.val (.int p1)] [(.int p1)])
      refine Goes.step (fun _ k => XS.bipush X0.here hx rfl (hb hby d2_17) k) ?_
      show Goes p e below s _ _ _ s₁ (mkF m 19 #[.val (.int p1)] [(.int (13 : Int32)), (.int p1)])
      refine Goes.ite (Q := PI h0) (fun hc19 => ?_) (fun hc19 => ?_)
      · refine Goes.step (fun _ k => XS.icmpNo X0.here hx rfl (hb hby d2_19) rfl (teq hc19).2 k) ?_
        show Goes p e below s _ _ _ s₁ (mkF m 22 #[.val (.int p1)] [])
        refine Goes.step (fun _ k => XS.iconst X0.here hx rfl (hb hby d2_22) k) ?_
        show Goes p e below s _ _ _ s₁ (mkF m 23 #[.val (.int p1)] [(.int (1 : Int32))])
        exact Goes.outN X0 hx hlk (t := .boolean) Bd.returns (by simp) (hb hby d2_23) ⟨rfl, rfl, e0⟩ (by decide) (by decide)
      · refine Goes.step (fun _ k => XS.icmpYes X0.here hx rfl (pc0 := 19) (pc' := 24) rfl (hb hby d2_19) rfl (feq hc19).2 (by decide) (by decide) k) ?_
        show Goes p e below s _ _ _ s₁ (mkF m 24 #[.val (.int p1)] [])
        refine Goes.step (fun _ k => XS.bipush X0.here hx rfl (hb hby d2_24) k) ?_
        show Goes p e below s _ _ _ s₁ (mkF m 26 #[.val (.int p1)] [(.int (32 : Int32))])
        refine Goes.step (fun _ k => XS.iloadN X0.here hx rfl (hb hby d2_26) rfl k) ?_
        show Goes p e below s _ _ _ s₁ (mkF m 27 #[.val (.int p1)] [(.int p1), (.int (32 : Int32))])
        refine Goes.ite (Q := PI h0) (fun hc27 => ?_) (fun hc27 => ?_)
        · refine Goes.step (fun _ k => XS.icmpYes X0.here hx rfl (pc0 := 27) (pc' := 38) rfl (hb hby d2_27) rfl (tlt hc27).2.2.1 (by decide) (by decide) k) ?_
          show Goes p e below s _ _ _ s₁ (mkF m 38 #[.val (.int p1)] [])
          exact B38 s₁ X0 e0 trivial
        · refine Goes.step (fun _ k => XS.icmpNo X0.here hx rfl (hb hby d2_27) rfl (flt hc27).2.2.1 k) ?_
          show Goes p e below s _ _ _ s₁ (mkF m 30 #[.val (.int p1)] [])
          refine Goes.step (fun _ k => XS.iloadN X0.here hx rfl (hb hby d2_30) rfl k) ?_
          show Goes p e below s _ _ _ s₁ (mkF m 31 #[.val (.int p1)] [(.int p1)])
          refine Goes.step (fun _ k => X0.ldcInt hx hown (mvT hZ (hw _ (List.mem_of_getElem? (i := 1) rfl))) (g := (mkF m 31 #[.val (.int p1)] [(.int p1)])) rfl (hb hby d2_31) _ k) ?_
          show Goes p e below s _ _ _ s₁ (mkF m 33 #[.val (.int p1)] [(.int (55295 : Int32)), (.int p1)])
          refine Goes.ite (Q := PI h0) (fun hc33 => ?_) (fun hc33 => ?_)
          · refine Goes.step (fun _ k => XS.icmpYes X0.here hx rfl (pc0 := 33) (pc' := 38) rfl (hb hby d2_33) rfl (tlt hc33).2.2.1 (by decide) (by decide) k) ?_
            show Goes p e below s _ _ _ s₁ (mkF m 38 #[.val (.int p1)] [])
            exact B38 s₁ X0 e0 trivial
          · refine Goes.step (fun _ k => XS.icmpNo X0.here hx rfl (hb hby d2_33) rfl (flt hc33).2.2.1 k) ?_
            show Goes p e below s _ _ _ s₁ (mkF m 36 #[.val (.int p1)] [])
            refine Goes.step (fun _ k => XS.iconst X0.here hx rfl (hb hby d2_36) k) ?_
            show Goes p e below s _ _ _ s₁ (mkF m 37 #[.val (.int p1)] [(.int (1 : Int32))])
            exact Goes.outN X0 hx hlk (t := .boolean) Bd.returns (by simp) (hb hby d2_37) ⟨rfl, rfl, e0⟩ (by decide) (by decide)
theorem own_ix (p : Int32) : (p &&& (15 : Int32)) = Int32.ofNat (p &&& (15 : Int32)).toInt.toNat ∧ (p &&& (15 : Int32)).toInt.toNat < 16 := by
  have e := c_mask p 15 4 (by decide) (by decide)
  generalize p &&& (15 : Int32) = c at *
  refine ⟨?_, by omega⟩
  apply Int32.toInt_inj.mp
  rw [Int32.toInt_ofNat_of_lt (by omega)]; omega
theorem own_same (c : Int32) : f1 c = f2 c := by
  simp only [f1_62,f1_40,f1_36,f1_24,f1,f2_66,f2_52,f2_38,f2]
  simp only [Int32.lt_iff_toInt_lt, ← Int32.toInt_inj]
  generalize c.toInt = z
  have lits : (32 : Int32).toInt = 32 ∧ (9 : Int32).toInt = 9 ∧ (10 : Int32).toInt = 10 ∧ (13 : Int32).toInt = 13 ∧ (55295 : Int32).toInt = 55295 ∧ (57344 : Int32).toInt = 57344 ∧ (65533 : Int32).toInt = 65533 ∧ (65536 : Int32).toInt = 65536 ∧ (1114111 : Int32).toInt = 1114111 := by decide
  obtain ⟨l1, l2, l3, l4, l5, l6, l7, l8, l9⟩ := lits
  rw [l1, l2, l3, l4, l5, l6, l7, l8, l9]
  repeat' split
  all_goals first | rfl | omega
theorem pn_0 : plainName "com/example/frond2/frond2/XmlCharsIsCharPinLaw" = true := by first | (simp [plainName, overriddenIn]; done) | decide +kernel
theorem pd_0_0 : parseMethodDescriptor "(I)Z" = some ⟨[.int], some .boolean⟩ := by decide +kernel
theorem ef_0 (m : MethodId) (p1 : Int32) (p2 : Int32) (p3 : Int32) : entryFrame m #[(.int p1), (.int p2), (.int p3)] maxLocals = mkF m 0 #[.val (.int p1), .val (.int p2), .val (.int p3), .unset, .unset, .unset, .unset] [] := by first | (simp [entryFrame, mkF, argsToLocals, Value.category, maxLocals]; done) | rfl
def Q0 (Z : State) (p1 : Int32) (p2 : Int32) (p3 : Int32)  (h0 : Heap) (n0 : Nat) (v : Option Value) (h : Heap) (L : List Loc) : Prop := v = some (.int (1 : Int32)) ∧ Fr n0 L
set_option maxRecDepth 65536 in
set_option maxHeartbeats 40000000 in
theorem rm0 (l : Launch) (Z : State) (a0 : Array Value) (hw : ∀ d ∈ tables_1, d.before a0 Z = true) (ws : List Jvm.Cond) (p1 : Int32) (p2 : Int32) (p3 : Int32)  (h0 : Heap) (n0 : Nat) (Z0 : n0 ≤ h0.size)  :
    MetFree l x (head1 (Jvm.Cond.code x code maxLocals ret :: ws) room_1) (fun a U => a = #[(.int p1), (.int p2), (.int p3)] ∧ Z.Warmed39 U.vm ∧ U.heap = h0) (fun _ _ _ _ _ => True) (fun _ U o U' => ∃ v L, o = .returned v ∧ Q0 Z p1 p2 p3 h0 n0 v U'.heap L ∧ FrameEnd U o U' L room_1.cells room_1.slots) := by
  refine MetFree.of_bodySF (plainFor_of_name pn_0) hisR ?_
  intro p e s m args below meth c s₁ Bd hml0 hP hK
  obtain ⟨rfl, hZ, hh⟩ := hP
  have hx := Bd.exec
  have hby := Bd.bytes
  have hlk := Bd.notSynchronized
  have hml : c.maxLocals = 7 := hml0
  have hown : s.vm.findClass "com/example/frond2/frond2/XmlCharsIsCharPinLaw" = some m.cls := findClass_of_methodNamed Bd.named
  have hnm := (name_of_methodNamed Bd.named Bd.method).1
  have X0 : Stand p l e room_1 s m #[(.int p1), (.int p2), (.int p3)] below meth c s₁ [] 0 0 := Stand.of_body Bd
  have e0 : s₁.heap = h0 := by rw [← hh, Bd.state]; rfl
  have N0 := Fr.nil n0
  have K0 : Keep h0 h0 [] := Keep.refl h0 _
  show Goes p e below s room_1.cells room_1.slots (Q0 Z p1 p2 p3 h0 n0) s₁ (entryFrame m #[(.int p1), (.int p2), (.int p3)] maxLocals)
  refine Goes.step (fun t k => castTop (ef_0 m p1 p2 p3) k) ?_
  refine Goes.step (fun _ k => XS.bipush X0.here hx rfl (hb hby at_0) k) ?_
  show Goes p e below s _ _ _ s₁ (mkF m 2 #[.val (.int p1), .val (.int p2), .val (.int p3), .unset, .unset, .unset, .unset] [(.int (16 : Int32))])
  obtain ⟨T1, h1, X1, e1, E1, A1, st1⟩ := newI X0 hx hZ (hw _ (List.mem_of_getElem? (i := 0) rfl)) e0 (g := (mkF m 2 #[.val (.int p1), .val (.int p2), .val (.int p3), .unset, .unset, .unset, .unset] [(.int (16 : Int32))])) rfl (hb hby at_2) rfl (N := 16) rfl (cap := 16) (by decide) (by decide) (by decide) (by decide) rfl (by decide)
  obtain ⟨b1, g_1⟩ : ∃ z, z = h0.size := ⟨_, rfl⟩
  rw [← g_1] at A1 st1
  refine Goes.step st1 ?_
  have ge_b1 : n0 ≤ b1 := by rw [g_1]; exact Z0
  have sz_b1 : h0.size ≤ b1 := by rw [g_1]; exact K0.1
  have z_1 : n0 ≤ h1.size := Nat.le_trans Z0 E1.1
  have K_1 : Keep h0 h1 [] := K0.ext E1
  have A_b1_1 : Ari Z h1 b1 .int (16) (fun _ => 0) := A1
  show Goes p e below s _ _ _ T1 (mkF m 4 #[.val (.int p1), .val (.int p2), .val (.int p3), .unset, .unset, .unset, .unset] [(.ref b1)])
  refine Goes.step (fun _ k => XS.dup X1.here hx rfl (hb hby at_4) rfl rfl k) ?_
  show Goes p e below s _ _ _ T1 (mkF m 5 #[.val (.int p1), .val (.int p2), .val (.int p3), .unset, .unset, .unset, .unset] [(.ref b1), (.ref b1)])
  refine Goes.step (fun _ k => XS.iconst X1.here hx rfl (hb hby at_5) k) ?_
  show Goes p e below s _ _ _ T1 (mkF m 6 #[.val (.int p1), .val (.int p2), .val (.int p3), .unset, .unset, .unset, .unset] [(.int (0 : Int32)), (.ref b1), (.ref b1)])
  refine Goes.step (fun _ k => XS.iconst X1.here hx rfl (hb hby at_6) k) ?_
  show Goes p e below s _ _ _ T1 (mkF m 7 #[.val (.int p1), .val (.int p2), .val (.int p3), .unset, .unset, .unset, .unset] [(.int (0 : Int32)), (.int (0 : Int32)), (.ref b1), (.ref b1)])
  obtain ⟨T2, h2, X2, e2, W2, A2, st2⟩ := stoI X1 hx hZ e1 A_b1_1 (0) rfl (by decide) (g := (mkF m 7 #[.val (.int p1), .val (.int p2), .val (.int p3), .unset, .unset, .unset, .unset] [(.int (0 : Int32)), (.int (0 : Int32)), (.ref b1), (.ref b1)])) rfl rfl (hb hby at_7)
  refine Goes.step st2 ?_
  have z_2 : n0 ≤ h2.size := by rw [W2.size]; exact z_1
  have K_2 : Keep h0 h2 [] := K_1.wr W2 (Or.inr sz_b1)
  have N_2 := Fr.snoc X2 N0 ge_b1
  have A_b1_2 : Ari Z h2 b1 .int (16) (updI (fun _ => 0) (0) (0 : Int32)) := A2
  show Goes p e below s _ _ _ T2 (mkF m 8 #[.val (.int p1), .val (.int p2), .val (.int p3), .unset, .unset, .unset, .unset] [(.ref b1)])
  refine Goes.step (fun _ k => XS.dup X2.here hx rfl (hb hby at_8) rfl rfl k) ?_
  show Goes p e below s _ _ _ T2 (mkF m 9 #[.val (.int p1), .val (.int p2), .val (.int p3), .unset, .unset, .unset, .unset] [(.ref b1), (.ref b1)])
  refine Goes.step (fun _ k => XS.iconst X2.here hx rfl (hb hby at_9) k) ?_
  show Goes p e below s _ _ _ T2 (mkF m 10 #[.val (.int p1), .val (.int p2), .val (.int p3), .unset, .unset, .unset, .unset] [(.int (1 : Int32)), (.ref b1), (.ref b1)])
  refine Goes.step (fun _ k => XS.bipush X2.here hx rfl (hb hby at_10) k) ?_
  show Goes p e below s _ _ _ T2 (mkF m 12 #[.val (.int p1), .val (.int p2), .val (.int p3), .unset, .unset, .unset, .unset] [(.int (9 : Int32)), (.int (1 : Int32)), (.ref b1), (.ref b1)])
  obtain ⟨T3, h3, X3, e3, W3, A3, st3⟩ := stoI X2 hx hZ e2 A_b1_2 (1) rfl (by decide) (g := (mkF m 12 #[.val (.int p1), .val (.int p2), .val (.int p3), .unset, .unset, .unset, .unset] [(.int (9 : Int32)), (.int (1 : Int32)), (.ref b1), (.ref b1)])) rfl rfl (hb hby at_12)
  refine Goes.step st3 ?_
  have z_3 : n0 ≤ h3.size := by rw [W3.size]; exact z_2
  have K_3 : Keep h0 h3 [] := K_2.wr W3 (Or.inr sz_b1)
  have N_3 := Fr.snoc X3 N_2 ge_b1
  have A_b1_3 : Ari Z h3 b1 .int (16) (updI (updI (fun _ => 0) (0) (0 : Int32)) (1) (9 : Int32)) := A3
  show Goes p e below s _ _ _ T3 (mkF m 13 #[.val (.int p1), .val (.int p2), .val (.int p3), .unset, .unset, .unset, .unset] [(.ref b1)])
  refine Goes.step (fun _ k => XS.dup X3.here hx rfl (hb hby at_13) rfl rfl k) ?_
  show Goes p e below s _ _ _ T3 (mkF m 14 #[.val (.int p1), .val (.int p2), .val (.int p3), .unset, .unset, .unset, .unset] [(.ref b1), (.ref b1)])
  refine Goes.step (fun _ k => XS.iconst X3.here hx rfl (hb hby at_14) k) ?_
  show Goes p e below s _ _ _ T3 (mkF m 15 #[.val (.int p1), .val (.int p2), .val (.int p3), .unset, .unset, .unset, .unset] [(.int (2 : Int32)), (.ref b1), (.ref b1)])
  refine Goes.step (fun _ k => XS.bipush X3.here hx rfl (hb hby at_15) k) ?_
  show Goes p e below s _ _ _ T3 (mkF m 17 #[.val (.int p1), .val (.int p2), .val (.int p3), .unset, .unset, .unset, .unset] [(.int (10 : Int32)), (.int (2 : Int32)), (.ref b1), (.ref b1)])
  obtain ⟨T4, h4, X4, e4, W4, A4, st4⟩ := stoI X3 hx hZ e3 A_b1_3 (2) rfl (by decide) (g := (mkF m 17 #[.val (.int p1), .val (.int p2), .val (.int p3), .unset, .unset, .unset, .unset] [(.int (10 : Int32)), (.int (2 : Int32)), (.ref b1), (.ref b1)])) rfl rfl (hb hby at_17)
  refine Goes.step st4 ?_
  have z_4 : n0 ≤ h4.size := by rw [W4.size]; exact z_3
  have K_4 : Keep h0 h4 [] := K_3.wr W4 (Or.inr sz_b1)
  have N_4 := Fr.snoc X4 N_3 ge_b1
  have A_b1_4 : Ari Z h4 b1 .int (16) (updI (updI (updI (fun _ => 0) (0) (0 : Int32)) (1) (9 : Int32)) (2) (10 : Int32)) := A4
  show Goes p e below s _ _ _ T4 (mkF m 18 #[.val (.int p1), .val (.int p2), .val (.int p3), .unset, .unset, .unset, .unset] [(.ref b1)])
  refine Goes.step (fun _ k => XS.dup X4.here hx rfl (hb hby at_18) rfl rfl k) ?_
  show Goes p e below s _ _ _ T4 (mkF m 19 #[.val (.int p1), .val (.int p2), .val (.int p3), .unset, .unset, .unset, .unset] [(.ref b1), (.ref b1)])
  refine Goes.step (fun _ k => XS.iconst X4.here hx rfl (hb hby at_19) k) ?_
  show Goes p e below s _ _ _ T4 (mkF m 20 #[.val (.int p1), .val (.int p2), .val (.int p3), .unset, .unset, .unset, .unset] [(.int (3 : Int32)), (.ref b1), (.ref b1)])
  refine Goes.step (fun _ k => XS.bipush X4.here hx rfl (hb hby at_20) k) ?_
  show Goes p e below s _ _ _ T4 (mkF m 22 #[.val (.int p1), .val (.int p2), .val (.int p3), .unset, .unset, .unset, .unset] [(.int (13 : Int32)), (.int (3 : Int32)), (.ref b1), (.ref b1)])
  obtain ⟨T5, h5, X5, e5, W5, A5, st5⟩ := stoI X4 hx hZ e4 A_b1_4 (3) rfl (by decide) (g := (mkF m 22 #[.val (.int p1), .val (.int p2), .val (.int p3), .unset, .unset, .unset, .unset] [(.int (13 : Int32)), (.int (3 : Int32)), (.ref b1), (.ref b1)])) rfl rfl (hb hby at_22)
  refine Goes.step st5 ?_
  have z_5 : n0 ≤ h5.size := by rw [W5.size]; exact z_4
  have K_5 : Keep h0 h5 [] := K_4.wr W5 (Or.inr sz_b1)
  have N_5 := Fr.snoc X5 N_4 ge_b1
  have A_b1_5 : Ari Z h5 b1 .int (16) (updI (updI (updI (updI (fun _ => 0) (0) (0 : Int32)) (1) (9 : Int32)) (2) (10 : Int32)) (3) (13 : Int32)) := A5
  show Goes p e below s _ _ _ T5 (mkF m 23 #[.val (.int p1), .val (.int p2), .val (.int p3), .unset, .unset, .unset, .unset] [(.ref b1)])
  refine Goes.step (fun _ k => XS.dup X5.here hx rfl (hb hby at_23) rfl rfl k) ?_
  show Goes p e below s _ _ _ T5 (mkF m 24 #[.val (.int p1), .val (.int p2), .val (.int p3), .unset, .unset, .unset, .unset] [(.ref b1), (.ref b1)])
  refine Goes.step (fun _ k => XS.iconst X5.here hx rfl (hb hby at_24) k) ?_
  show Goes p e below s _ _ _ T5 (mkF m 25 #[.val (.int p1), .val (.int p2), .val (.int p3), .unset, .unset, .unset, .unset] [(.int (4 : Int32)), (.ref b1), (.ref b1)])
  refine Goes.step (fun _ k => XS.bipush X5.here hx rfl (hb hby at_25) k) ?_
  show Goes p e below s _ _ _ T5 (mkF m 27 #[.val (.int p1), .val (.int p2), .val (.int p3), .unset, .unset, .unset, .unset] [(.int (31 : Int32)), (.int (4 : Int32)), (.ref b1), (.ref b1)])
  obtain ⟨T6, h6, X6, e6, W6, A6, st6⟩ := stoI X5 hx hZ e5 A_b1_5 (4) rfl (by decide) (g := (mkF m 27 #[.val (.int p1), .val (.int p2), .val (.int p3), .unset, .unset, .unset, .unset] [(.int (31 : Int32)), (.int (4 : Int32)), (.ref b1), (.ref b1)])) rfl rfl (hb hby at_27)
  refine Goes.step st6 ?_
  have z_6 : n0 ≤ h6.size := by rw [W6.size]; exact z_5
  have K_6 : Keep h0 h6 [] := K_5.wr W6 (Or.inr sz_b1)
  have N_6 := Fr.snoc X6 N_5 ge_b1
  have A_b1_6 : Ari Z h6 b1 .int (16) (updI (updI (updI (updI (updI (fun _ => 0) (0) (0 : Int32)) (1) (9 : Int32)) (2) (10 : Int32)) (3) (13 : Int32)) (4) (31 : Int32)) := A6
  show Goes p e below s _ _ _ T6 (mkF m 28 #[.val (.int p1), .val (.int p2), .val (.int p3), .unset, .unset, .unset, .unset] [(.ref b1)])
  refine Goes.step (fun _ k => XS.dup X6.here hx rfl (hb hby at_28) rfl rfl k) ?_
  show Goes p e below s _ _ _ T6 (mkF m 29 #[.val (.int p1), .val (.int p2), .val (.int p3), .unset, .unset, .unset, .unset] [(.ref b1), (.ref b1)])
  refine Goes.step (fun _ k => XS.iconst X6.here hx rfl (hb hby at_29) k) ?_
  show Goes p e below s _ _ _ T6 (mkF m 30 #[.val (.int p1), .val (.int p2), .val (.int p3), .unset, .unset, .unset, .unset] [(.int (5 : Int32)), (.ref b1), (.ref b1)])
  refine Goes.step (fun _ k => XS.bipush X6.here hx rfl (hb hby at_30) k) ?_
  show Goes p e below s _ _ _ T6 (mkF m 32 #[.val (.int p1), .val (.int p2), .val (.int p3), .unset, .unset, .unset, .unset] [(.int (32 : Int32)), (.int (5 : Int32)), (.ref b1), (.ref b1)])
  obtain ⟨T7, h7, X7, e7, W7, A7, st7⟩ := stoI X6 hx hZ e6 A_b1_6 (5) rfl (by decide) (g := (mkF m 32 #[.val (.int p1), .val (.int p2), .val (.int p3), .unset, .unset, .unset, .unset] [(.int (32 : Int32)), (.int (5 : Int32)), (.ref b1), (.ref b1)])) rfl rfl (hb hby at_32)
  refine Goes.step st7 ?_
  have z_7 : n0 ≤ h7.size := by rw [W7.size]; exact z_6
  have K_7 : Keep h0 h7 [] := K_6.wr W7 (Or.inr sz_b1)
  have N_7 := Fr.snoc X7 N_6 ge_b1
  have A_b1_7 : Ari Z h7 b1 .int (16) (updI (updI (updI (updI (updI (updI (fun _ => 0) (0) (0 : Int32)) (1) (9 : Int32)) (2) (10 : Int32)) (3) (13 : Int32)) (4) (31 : Int32)) (5) (32 : Int32)) := A7
  show Goes p e below s _ _ _ T7 (mkF m 33 #[.val (.int p1), .val (.int p2), .val (.int p3), .unset, .unset, .unset, .unset] [(.ref b1)])
  refine Goes.step (fun _ k => XS.dup X7.here hx rfl (hb hby at_33) rfl rfl k) ?_
  show Goes p e below s _ _ _ T7 (mkF m 34 #[.val (.int p1), .val (.int p2), .val (.int p3), .unset, .unset, .unset, .unset] [(.ref b1), (.ref b1)])
  refine Goes.step (fun _ k => XS.bipush X7.here hx rfl (hb hby at_34) k) ?_
  show Goes p e below s _ _ _ T7 (mkF m 36 #[.val (.int p1), .val (.int p2), .val (.int p3), .unset, .unset, .unset, .unset] [(.int (6 : Int32)), (.ref b1), (.ref b1)])
  refine Goes.step (fun _ k => X7.ldcInt hx hown (mvT hZ (hw _ (List.mem_of_getElem? (i := 1) rfl))) (g := (mkF m 36 #[.val (.int p1), .val (.int p2), .val (.int p3), .unset, .unset, .unset, .unset] [(.int (6 : Int32)), (.ref b1), (.ref b1)])) rfl (hb hby at_36) _ k) ?_
  show Goes p e below s _ _ _ T7 (mkF m 38 #[.val (.int p1), .val (.int p2), .val (.int p3), .unset, .unset, .unset, .unset] [(.int (55295 : Int32)), (.int (6 : Int32)), (.ref b1), (.ref b1)])
  obtain ⟨T8, h8, X8, e8, W8, A8, st8⟩ := stoI X7 hx hZ e7 A_b1_7 (6) rfl (by decide) (g := (mkF m 38 #[.val (.int p1), .val (.int p2), .val (.int p3), .unset, .unset, .unset, .unset] [(.int (55295 : Int32)), (.int (6 : Int32)), (.ref b1), (.ref b1)])) rfl rfl (hb hby at_38)
  refine Goes.step st8 ?_
  have z_8 : n0 ≤ h8.size := by rw [W8.size]; exact z_7
  have K_8 : Keep h0 h8 [] := K_7.wr W8 (Or.inr sz_b1)
  have N_8 := Fr.snoc X8 N_7 ge_b1
  have A_b1_8 : Ari Z h8 b1 .int (16) (updI (updI (updI (updI (updI (updI (updI (fun _ => 0) (0) (0 : Int32)) (1) (9 : Int32)) (2) (10 : Int32)) (3) (13 : Int32)) (4) (31 : Int32)) (5) (32 : Int32)) (6) (55295 : Int32)) := A8
  show Goes p e below s _ _ _ T8 (mkF m 39 #[.val (.int p1), .val (.int p2), .val (.int p3), .unset, .unset, .unset, .unset] [(.ref b1)])
  refine Goes.step (fun _ k => XS.dup X8.here hx rfl (hb hby at_39) rfl rfl k) ?_
  show Goes p e below s _ _ _ T8 (mkF m 40 #[.val (.int p1), .val (.int p2), .val (.int p3), .unset, .unset, .unset, .unset] [(.ref b1), (.ref b1)])
  refine Goes.step (fun _ k => XS.bipush X8.here hx rfl (hb hby at_40) k) ?_
  show Goes p e below s _ _ _ T8 (mkF m 42 #[.val (.int p1), .val (.int p2), .val (.int p3), .unset, .unset, .unset, .unset] [(.int (7 : Int32)), (.ref b1), (.ref b1)])
  refine Goes.step (fun _ k => X8.ldcInt hx hown (mvT hZ (hw _ (List.mem_of_getElem? (i := 2) rfl))) (g := (mkF m 42 #[.val (.int p1), .val (.int p2), .val (.int p3), .unset, .unset, .unset, .unset] [(.int (7 : Int32)), (.ref b1), (.ref b1)])) rfl (hb hby at_42) _ k) ?_
  show Goes p e below s _ _ _ T8 (mkF m 44 #[.val (.int p1), .val (.int p2), .val (.int p3), .unset, .unset, .unset, .unset] [(.int (55296 : Int32)), (.int (7 : Int32)), (.ref b1), (.ref b1)])
  obtain ⟨T9, h9, X9, e9, W9, A9, st9⟩ := stoI X8 hx hZ e8 A_b1_8 (7) rfl (by decide) (g := (mkF m 44 #[.val (.int p1), .val (.int p2), .val (.int p3), .unset, .unset, .unset, .unset] [(.int (55296 : Int32)), (.int (7 : Int32)), (.ref b1), (.ref b1)])) rfl rfl (hb hby at_44)
  refine Goes.step st9 ?_
  have z_9 : n0 ≤ h9.size := by rw [W9.size]; exact z_8
  have K_9 : Keep h0 h9 [] := K_8.wr W9 (Or.inr sz_b1)
  have N_9 := Fr.snoc X9 N_8 ge_b1
  have A_b1_9 : Ari Z h9 b1 .int (16) (updI (updI (updI (updI (updI (updI (updI (updI (fun _ => 0) (0) (0 : Int32)) (1) (9 : Int32)) (2) (10 : Int32)) (3) (13 : Int32)) (4) (31 : Int32)) (5) (32 : Int32)) (6) (55295 : Int32)) (7) (55296 : Int32)) := A9
  show Goes p e below s _ _ _ T9 (mkF m 45 #[.val (.int p1), .val (.int p2), .val (.int p3), .unset, .unset, .unset, .unset] [(.ref b1)])
  refine Goes.step (fun _ k => XS.dup X9.here hx rfl (hb hby at_45) rfl rfl k) ?_
  show Goes p e below s _ _ _ T9 (mkF m 46 #[.val (.int p1), .val (.int p2), .val (.int p3), .unset, .unset, .unset, .unset] [(.ref b1), (.ref b1)])
  refine Goes.step (fun _ k => XS.bipush X9.here hx rfl (hb hby at_46) k) ?_
  show Goes p e below s _ _ _ T9 (mkF m 48 #[.val (.int p1), .val (.int p2), .val (.int p3), .unset, .unset, .unset, .unset] [(.int (8 : Int32)), (.ref b1), (.ref b1)])
  refine Goes.step (fun _ k => X9.ldcInt hx hown (mvT hZ (hw _ (List.mem_of_getElem? (i := 3) rfl))) (g := (mkF m 48 #[.val (.int p1), .val (.int p2), .val (.int p3), .unset, .unset, .unset, .unset] [(.int (8 : Int32)), (.ref b1), (.ref b1)])) rfl (hb hby at_48) _ k) ?_
  show Goes p e below s _ _ _ T9 (mkF m 50 #[.val (.int p1), .val (.int p2), .val (.int p3), .unset, .unset, .unset, .unset] [(.int (57343 : Int32)), (.int (8 : Int32)), (.ref b1), (.ref b1)])
  obtain ⟨T10, h10, X10, e10, W10, A10, st10⟩ := stoI X9 hx hZ e9 A_b1_9 (8) rfl (by decide) (g := (mkF m 50 #[.val (.int p1), .val (.int p2), .val (.int p3), .unset, .unset, .unset, .unset] [(.int (57343 : Int32)), (.int (8 : Int32)), (.ref b1), (.ref b1)])) rfl rfl (hb hby at_50)
  refine Goes.step st10 ?_
  have z_10 : n0 ≤ h10.size := by rw [W10.size]; exact z_9
  have K_10 : Keep h0 h10 [] := K_9.wr W10 (Or.inr sz_b1)
  have N_10 := Fr.snoc X10 N_9 ge_b1
  have A_b1_10 : Ari Z h10 b1 .int (16) (updI (updI (updI (updI (updI (updI (updI (updI (updI (fun _ => 0) (0) (0 : Int32)) (1) (9 : Int32)) (2) (10 : Int32)) (3) (13 : Int32)) (4) (31 : Int32)) (5) (32 : Int32)) (6) (55295 : Int32)) (7) (55296 : Int32)) (8) (57343 : Int32)) := A10
  show Goes p e below s _ _ _ T10 (mkF m 51 #[.val (.int p1), .val (.int p2), .val (.int p3), .unset, .unset, .unset, .unset] [(.ref b1)])
  refine Goes.step (fun _ k => XS.dup X10.here hx rfl (hb hby at_51) rfl rfl k) ?_
  show Goes p e below s _ _ _ T10 (mkF m 52 #[.val (.int p1), .val (.int p2), .val (.int p3), .unset, .unset, .unset, .unset] [(.ref b1), (.ref b1)])
  refine Goes.step (fun _ k => XS.bipush X10.here hx rfl (hb hby at_52) k) ?_
  show Goes p e below s _ _ _ T10 (mkF m 54 #[.val (.int p1), .val (.int p2), .val (.int p3), .unset, .unset, .unset, .unset] [(.int (9 : Int32)), (.ref b1), (.ref b1)])
  refine Goes.step (fun _ k => X10.ldcInt hx hown (mvT hZ (hw _ (List.mem_of_getElem? (i := 4) rfl))) (g := (mkF m 54 #[.val (.int p1), .val (.int p2), .val (.int p3), .unset, .unset, .unset, .unset] [(.int (9 : Int32)), (.ref b1), (.ref b1)])) rfl (hb hby at_54) _ k) ?_
  show Goes p e below s _ _ _ T10 (mkF m 56 #[.val (.int p1), .val (.int p2), .val (.int p3), .unset, .unset, .unset, .unset] [(.int (57344 : Int32)), (.int (9 : Int32)), (.ref b1), (.ref b1)])
  obtain ⟨T11, h11, X11, e11, W11, A11, st11⟩ := stoI X10 hx hZ e10 A_b1_10 (9) rfl (by decide) (g := (mkF m 56 #[.val (.int p1), .val (.int p2), .val (.int p3), .unset, .unset, .unset, .unset] [(.int (57344 : Int32)), (.int (9 : Int32)), (.ref b1), (.ref b1)])) rfl rfl (hb hby at_56)
  refine Goes.step st11 ?_
  have z_11 : n0 ≤ h11.size := by rw [W11.size]; exact z_10
  have K_11 : Keep h0 h11 [] := K_10.wr W11 (Or.inr sz_b1)
  have N_11 := Fr.snoc X11 N_10 ge_b1
  have A_b1_11 : Ari Z h11 b1 .int (16) (updI (updI (updI (updI (updI (updI (updI (updI (updI (updI (fun _ => 0) (0) (0 : Int32)) (1) (9 : Int32)) (2) (10 : Int32)) (3) (13 : Int32)) (4) (31 : Int32)) (5) (32 : Int32)) (6) (55295 : Int32)) (7) (55296 : Int32)) (8) (57343 : Int32)) (9) (57344 : Int32)) := A11
  show Goes p e below s _ _ _ T11 (mkF m 57 #[.val (.int p1), .val (.int p2), .val (.int p3), .unset, .unset, .unset, .unset] [(.ref b1)])
  refine Goes.step (fun _ k => XS.dup X11.here hx rfl (hb hby at_57) rfl rfl k) ?_
  show Goes p e below s _ _ _ T11 (mkF m 58 #[.val (.int p1), .val (.int p2), .val (.int p3), .unset, .unset, .unset, .unset] [(.ref b1), (.ref b1)])
  refine Goes.step (fun _ k => XS.bipush X11.here hx rfl (hb hby at_58) k) ?_
  show Goes p e below s _ _ _ T11 (mkF m 60 #[.val (.int p1), .val (.int p2), .val (.int p3), .unset, .unset, .unset, .unset] [(.int (10 : Int32)), (.ref b1), (.ref b1)])
  refine Goes.step (fun _ k => X11.ldcInt hx hown (mvT hZ (hw _ (List.mem_of_getElem? (i := 5) rfl))) (g := (mkF m 60 #[.val (.int p1), .val (.int p2), .val (.int p3), .unset, .unset, .unset, .unset] [(.int (10 : Int32)), (.ref b1), (.ref b1)])) rfl (hb hby at_60) _ k) ?_
  show Goes p e below s _ _ _ T11 (mkF m 62 #[.val (.int p1), .val (.int p2), .val (.int p3), .unset, .unset, .unset, .unset] [(.int (65533 : Int32)), (.int (10 : Int32)), (.ref b1), (.ref b1)])
  obtain ⟨T12, h12, X12, e12, W12, A12, st12⟩ := stoI X11 hx hZ e11 A_b1_11 (10) rfl (by decide) (g := (mkF m 62 #[.val (.int p1), .val (.int p2), .val (.int p3), .unset, .unset, .unset, .unset] [(.int (65533 : Int32)), (.int (10 : Int32)), (.ref b1), (.ref b1)])) rfl rfl (hb hby at_62)
  refine Goes.step st12 ?_
  have z_12 : n0 ≤ h12.size := by rw [W12.size]; exact z_11
  have K_12 : Keep h0 h12 [] := K_11.wr W12 (Or.inr sz_b1)
  have N_12 := Fr.snoc X12 N_11 ge_b1
  have A_b1_12 : Ari Z h12 b1 .int (16) (updI (updI (updI (updI (updI (updI (updI (updI (updI (updI (updI (fun _ => 0) (0) (0 : Int32)) (1) (9 : Int32)) (2) (10 : Int32)) (3) (13 : Int32)) (4) (31 : Int32)) (5) (32 : Int32)) (6) (55295 : Int32)) (7) (55296 : Int32)) (8) (57343 : Int32)) (9) (57344 : Int32)) (10) (65533 : Int32)) := A12
  show Goes p e below s _ _ _ T12 (mkF m 63 #[.val (.int p1), .val (.int p2), .val (.int p3), .unset, .unset, .unset, .unset] [(.ref b1)])
  refine Goes.step (fun _ k => XS.dup X12.here hx rfl (hb hby at_63) rfl rfl k) ?_
  show Goes p e below s _ _ _ T12 (mkF m 64 #[.val (.int p1), .val (.int p2), .val (.int p3), .unset, .unset, .unset, .unset] [(.ref b1), (.ref b1)])
  refine Goes.step (fun _ k => XS.bipush X12.here hx rfl (hb hby at_64) k) ?_
  show Goes p e below s _ _ _ T12 (mkF m 66 #[.val (.int p1), .val (.int p2), .val (.int p3), .unset, .unset, .unset, .unset] [(.int (11 : Int32)), (.ref b1), (.ref b1)])
  refine Goes.step (fun _ k => X12.ldcInt hx hown (mvT hZ (hw _ (List.mem_of_getElem? (i := 6) rfl))) (g := (mkF m 66 #[.val (.int p1), .val (.int p2), .val (.int p3), .unset, .unset, .unset, .unset] [(.int (11 : Int32)), (.ref b1), (.ref b1)])) rfl (hb hby at_66) _ k) ?_
  show Goes p e below s _ _ _ T12 (mkF m 68 #[.val (.int p1), .val (.int p2), .val (.int p3), .unset, .unset, .unset, .unset] [(.int (65534 : Int32)), (.int (11 : Int32)), (.ref b1), (.ref b1)])
  obtain ⟨T13, h13, X13, e13, W13, A13, st13⟩ := stoI X12 hx hZ e12 A_b1_12 (11) rfl (by decide) (g := (mkF m 68 #[.val (.int p1), .val (.int p2), .val (.int p3), .unset, .unset, .unset, .unset] [(.int (65534 : Int32)), (.int (11 : Int32)), (.ref b1), (.ref b1)])) rfl rfl (hb hby at_68)
  refine Goes.step st13 ?_
  have z_13 : n0 ≤ h13.size := by rw [W13.size]; exact z_12
  have K_13 : Keep h0 h13 [] := K_12.wr W13 (Or.inr sz_b1)
  have N_13 := Fr.snoc X13 N_12 ge_b1
  have A_b1_13 : Ari Z h13 b1 .int (16) (updI (updI (updI (updI (updI (updI (updI (updI (updI (updI (updI (updI (fun _ => 0) (0) (0 : Int32)) (1) (9 : Int32)) (2) (10 : Int32)) (3) (13 : Int32)) (4) (31 : Int32)) (5) (32 : Int32)) (6) (55295 : Int32)) (7) (55296 : Int32)) (8) (57343 : Int32)) (9) (57344 : Int32)) (10) (65533 : Int32)) (11) (65534 : Int32)) := A13
  show Goes p e below s _ _ _ T13 (mkF m 69 #[.val (.int p1), .val (.int p2), .val (.int p3), .unset, .unset, .unset, .unset] [(.ref b1)])
  refine Goes.step (fun _ k => XS.dup X13.here hx rfl (hb hby at_69) rfl rfl k) ?_
  show Goes p e below s _ _ _ T13 (mkF m 70 #[.val (.int p1), .val (.int p2), .val (.int p3), .unset, .unset, .unset, .unset] [(.ref b1), (.ref b1)])
  refine Goes.step (fun _ k => XS.bipush X13.here hx rfl (hb hby at_70) k) ?_
  show Goes p e below s _ _ _ T13 (mkF m 72 #[.val (.int p1), .val (.int p2), .val (.int p3), .unset, .unset, .unset, .unset] [(.int (12 : Int32)), (.ref b1), (.ref b1)])
  refine Goes.step (fun _ k => X13.ldcInt hx hown (mvT hZ (hw _ (List.mem_of_getElem? (i := 7) rfl))) (g := (mkF m 72 #[.val (.int p1), .val (.int p2), .val (.int p3), .unset, .unset, .unset, .unset] [(.int (12 : Int32)), (.ref b1), (.ref b1)])) rfl (hb hby at_72) _ k) ?_
  show Goes p e below s _ _ _ T13 (mkF m 74 #[.val (.int p1), .val (.int p2), .val (.int p3), .unset, .unset, .unset, .unset] [(.int (65536 : Int32)), (.int (12 : Int32)), (.ref b1), (.ref b1)])
  obtain ⟨T14, h14, X14, e14, W14, A14, st14⟩ := stoI X13 hx hZ e13 A_b1_13 (12) rfl (by decide) (g := (mkF m 74 #[.val (.int p1), .val (.int p2), .val (.int p3), .unset, .unset, .unset, .unset] [(.int (65536 : Int32)), (.int (12 : Int32)), (.ref b1), (.ref b1)])) rfl rfl (hb hby at_74)
  refine Goes.step st14 ?_
  have z_14 : n0 ≤ h14.size := by rw [W14.size]; exact z_13
  have K_14 : Keep h0 h14 [] := K_13.wr W14 (Or.inr sz_b1)
  have N_14 := Fr.snoc X14 N_13 ge_b1
  have A_b1_14 : Ari Z h14 b1 .int (16) (updI (updI (updI (updI (updI (updI (updI (updI (updI (updI (updI (updI (updI (fun _ => 0) (0) (0 : Int32)) (1) (9 : Int32)) (2) (10 : Int32)) (3) (13 : Int32)) (4) (31 : Int32)) (5) (32 : Int32)) (6) (55295 : Int32)) (7) (55296 : Int32)) (8) (57343 : Int32)) (9) (57344 : Int32)) (10) (65533 : Int32)) (11) (65534 : Int32)) (12) (65536 : Int32)) := A14
  show Goes p e below s _ _ _ T14 (mkF m 75 #[.val (.int p1), .val (.int p2), .val (.int p3), .unset, .unset, .unset, .unset] [(.ref b1)])
  refine Goes.step (fun _ k => XS.dup X14.here hx rfl (hb hby at_75) rfl rfl k) ?_
  show Goes p e below s _ _ _ T14 (mkF m 76 #[.val (.int p1), .val (.int p2), .val (.int p3), .unset, .unset, .unset, .unset] [(.ref b1), (.ref b1)])
  refine Goes.step (fun _ k => XS.bipush X14.here hx rfl (hb hby at_76) k) ?_
  show Goes p e below s _ _ _ T14 (mkF m 78 #[.val (.int p1), .val (.int p2), .val (.int p3), .unset, .unset, .unset, .unset] [(.int (13 : Int32)), (.ref b1), (.ref b1)])
  refine Goes.step (fun _ k => X14.ldcInt hx hown (mvT hZ (hw _ (List.mem_of_getElem? (i := 8) rfl))) (g := (mkF m 78 #[.val (.int p1), .val (.int p2), .val (.int p3), .unset, .unset, .unset, .unset] [(.int (13 : Int32)), (.ref b1), (.ref b1)])) rfl (hb hby at_78) _ k) ?_
  show Goes p e below s _ _ _ T14 (mkF m 80 #[.val (.int p1), .val (.int p2), .val (.int p3), .unset, .unset, .unset, .unset] [(.int (1114111 : Int32)), (.int (13 : Int32)), (.ref b1), (.ref b1)])
  obtain ⟨T15, h15, X15, e15, W15, A15, st15⟩ := stoI X14 hx hZ e14 A_b1_14 (13) rfl (by decide) (g := (mkF m 80 #[.val (.int p1), .val (.int p2), .val (.int p3), .unset, .unset, .unset, .unset] [(.int (1114111 : Int32)), (.int (13 : Int32)), (.ref b1), (.ref b1)])) rfl rfl (hb hby at_80)
  refine Goes.step st15 ?_
  have z_15 : n0 ≤ h15.size := by rw [W15.size]; exact z_14
  have K_15 : Keep h0 h15 [] := K_14.wr W15 (Or.inr sz_b1)
  have N_15 := Fr.snoc X15 N_14 ge_b1
  have A_b1_15 : Ari Z h15 b1 .int (16) (updI (updI (updI (updI (updI (updI (updI (updI (updI (updI (updI (updI (updI (updI (fun _ => 0) (0) (0 : Int32)) (1) (9 : Int32)) (2) (10 : Int32)) (3) (13 : Int32)) (4) (31 : Int32)) (5) (32 : Int32)) (6) (55295 : Int32)) (7) (55296 : Int32)) (8) (57343 : Int32)) (9) (57344 : Int32)) (10) (65533 : Int32)) (11) (65534 : Int32)) (12) (65536 : Int32)) (13) (1114111 : Int32)) := A15
  show Goes p e below s _ _ _ T15 (mkF m 81 #[.val (.int p1), .val (.int p2), .val (.int p3), .unset, .unset, .unset, .unset] [(.ref b1)])
  refine Goes.step (fun _ k => XS.dup X15.here hx rfl (hb hby at_81) rfl rfl k) ?_
  show Goes p e below s _ _ _ T15 (mkF m 82 #[.val (.int p1), .val (.int p2), .val (.int p3), .unset, .unset, .unset, .unset] [(.ref b1), (.ref b1)])
  refine Goes.step (fun _ k => XS.bipush X15.here hx rfl (hb hby at_82) k) ?_
  show Goes p e below s _ _ _ T15 (mkF m 84 #[.val (.int p1), .val (.int p2), .val (.int p3), .unset, .unset, .unset, .unset] [(.int (14 : Int32)), (.ref b1), (.ref b1)])
  refine Goes.step (fun _ k => X15.ldcInt hx hown (mvT hZ (hw _ (List.mem_of_getElem? (i := 9) rfl))) (g := (mkF m 84 #[.val (.int p1), .val (.int p2), .val (.int p3), .unset, .unset, .unset, .unset] [(.int (14 : Int32)), (.ref b1), (.ref b1)])) rfl (hb hby at_84) _ k) ?_
  show Goes p e below s _ _ _ T15 (mkF m 86 #[.val (.int p1), .val (.int p2), .val (.int p3), .unset, .unset, .unset, .unset] [(.int (1114112 : Int32)), (.int (14 : Int32)), (.ref b1), (.ref b1)])
  obtain ⟨T16, h16, X16, e16, W16, A16, st16⟩ := stoI X15 hx hZ e15 A_b1_15 (14) rfl (by decide) (g := (mkF m 86 #[.val (.int p1), .val (.int p2), .val (.int p3), .unset, .unset, .unset, .unset] [(.int (1114112 : Int32)), (.int (14 : Int32)), (.ref b1), (.ref b1)])) rfl rfl (hb hby at_86)
  refine Goes.step st16 ?_
  have z_16 : n0 ≤ h16.size := by rw [W16.size]; exact z_15
  have K_16 : Keep h0 h16 [] := K_15.wr W16 (Or.inr sz_b1)
  have N_16 := Fr.snoc X16 N_15 ge_b1
  have A_b1_16 : Ari Z h16 b1 .int (16) (updI (updI (updI (updI (updI (updI (updI (updI (updI (updI (updI (updI (updI (updI (updI (fun _ => 0) (0) (0 : Int32)) (1) (9 : Int32)) (2) (10 : Int32)) (3) (13 : Int32)) (4) (31 : Int32)) (5) (32 : Int32)) (6) (55295 : Int32)) (7) (55296 : Int32)) (8) (57343 : Int32)) (9) (57344 : Int32)) (10) (65533 : Int32)) (11) (65534 : Int32)) (12) (65536 : Int32)) (13) (1114111 : Int32)) (14) (1114112 : Int32)) := A16
  show Goes p e below s _ _ _ T16 (mkF m 87 #[.val (.int p1), .val (.int p2), .val (.int p3), .unset, .unset, .unset, .unset] [(.ref b1)])
  refine Goes.step (fun _ k => XS.dup X16.here hx rfl (hb hby at_87) rfl rfl k) ?_
  show Goes p e below s _ _ _ T16 (mkF m 88 #[.val (.int p1), .val (.int p2), .val (.int p3), .unset, .unset, .unset, .unset] [(.ref b1), (.ref b1)])
  refine Goes.step (fun _ k => XS.bipush X16.here hx rfl (hb hby at_88) k) ?_
  show Goes p e below s _ _ _ T16 (mkF m 90 #[.val (.int p1), .val (.int p2), .val (.int p3), .unset, .unset, .unset, .unset] [(.int (15 : Int32)), (.ref b1), (.ref b1)])
  refine Goes.step (fun _ k => X16.ldcInt hx hown (mvT hZ (hw _ (List.mem_of_getElem? (i := 10) rfl))) (g := (mkF m 90 #[.val (.int p1), .val (.int p2), .val (.int p3), .unset, .unset, .unset, .unset] [(.int (15 : Int32)), (.ref b1), (.ref b1)])) rfl (hb hby at_90) _ k) ?_
  show Goes p e below s _ _ _ T16 (mkF m 92 #[.val (.int p1), .val (.int p2), .val (.int p3), .unset, .unset, .unset, .unset] [(.int (-2147483648 : Int32)), (.int (15 : Int32)), (.ref b1), (.ref b1)])
  obtain ⟨T17, h17, X17, e17, W17, A17, st17⟩ := stoI X16 hx hZ e16 A_b1_16 (15) rfl (by decide) (g := (mkF m 92 #[.val (.int p1), .val (.int p2), .val (.int p3), .unset, .unset, .unset, .unset] [(.int (-2147483648 : Int32)), (.int (15 : Int32)), (.ref b1), (.ref b1)])) rfl rfl (hb hby at_92)
  refine Goes.step st17 ?_
  have z_17 : n0 ≤ h17.size := by rw [W17.size]; exact z_16
  have K_17 : Keep h0 h17 [] := K_16.wr W17 (Or.inr sz_b1)
  have N_17 := Fr.snoc X17 N_16 ge_b1
  have A_b1_17 : Ari Z h17 b1 .int (16) (updI (updI (updI (updI (updI (updI (updI (updI (updI (updI (updI (updI (updI (updI (updI (updI (fun _ => 0) (0) (0 : Int32)) (1) (9 : Int32)) (2) (10 : Int32)) (3) (13 : Int32)) (4) (31 : Int32)) (5) (32 : Int32)) (6) (55295 : Int32)) (7) (55296 : Int32)) (8) (57343 : Int32)) (9) (57344 : Int32)) (10) (65533 : Int32)) (11) (65534 : Int32)) (12) (65536 : Int32)) (13) (1114111 : Int32)) (14) (1114112 : Int32)) (15) (-2147483648 : Int32)) := A17
  show Goes p e below s _ _ _ T17 (mkF m 93 #[.val (.int p1), .val (.int p2), .val (.int p3), .unset, .unset, .unset, .unset] [(.ref b1)])
  refine Goes.step (fun _ k => XS.astoreN X17.here hx rfl (hb hby at_93) rfl rfl (l' := #[.val (.int p1), .val (.int p2), .val (.int p3), .val (.ref b1), .unset, .unset, .unset]) rfl k) ?_
  show Goes p e below s _ _ _ T17 (mkF m 94 #[.val (.int p1), .val (.int p2), .val (.int p3), .val (.ref b1), .unset, .unset, .unset] [])
  refine Goes.step (fun _ k => XS.aloadN X17.here hx rfl (hb hby at_94) rfl rfl k) ?_
  show Goes p e below s _ _ _ T17 (mkF m 95 #[.val (.int p1), .val (.int p2), .val (.int p3), .val (.ref b1), .unset, .unset, .unset] [(.ref b1)])
  refine Goes.step (fun _ k => XS.iloadN X17.here hx rfl (hb hby at_95) rfl k) ?_
  show Goes p e below s _ _ _ T17 (mkF m 96 #[.val (.int p1), .val (.int p2), .val (.int p3), .val (.ref b1), .unset, .unset, .unset] [(.int p2), (.ref b1)])
  refine Goes.step (fun _ k => XS.bipush X17.here hx rfl (hb hby at_96) k) ?_
  show Goes p e below s _ _ _ T17 (mkF m 98 #[.val (.int p1), .val (.int p2), .val (.int p3), .val (.ref b1), .unset, .unset, .unset] [(.int (15 : Int32)), (.int p2), (.ref b1)])
  refine Goes.step (fun _ k => XS.iand X17.here hx rfl (hb hby at_98) rfl k) ?_
  show Goes p e below s _ _ _ T17 (mkF m 99 #[.val (.int p1), .val (.int p2), .val (.int p3), .val (.ref b1), .unset, .unset, .unset] [(.int (p2 &&& (15 : Int32))), (.ref b1)])
  refine Goes.step (fun _ k => rdI X17 hx hZ e17 A_b1_17 ((p2 &&& (15 : Int32)).toInt.toNat) (own_ix p2).1 (own_ix p2).2 (g := (mkF m 99 #[.val (.int p1), .val (.int p2), .val (.int p3), .val (.ref b1), .unset, .unset, .unset] [(.int (p2 &&& (15 : Int32))), (.ref b1)])) rfl rfl (hb hby at_99) _ k) ?_
  show Goes p e below s _ _ _ T17 (mkF m 100 #[.val (.int p1), .val (.int p2), .val (.int p3), .val (.ref b1), .unset, .unset, .unset] [(.int ((updI (updI (updI (updI (updI (updI (updI (updI (updI (updI (updI (updI (updI (updI (updI (updI (fun _ => 0) (0) (0 : Int32)) (1) (9 : Int32)) (2) (10 : Int32)) (3) (13 : Int32)) (4) (31 : Int32)) (5) (32 : Int32)) (6) (55295 : Int32)) (7) (55296 : Int32)) (8) (57343 : Int32)) (9) (57344 : Int32)) (10) (65533 : Int32)) (11) (65534 : Int32)) (12) (65536 : Int32)) (13) (1114111 : Int32)) (14) (1114112 : Int32)) (15) (-2147483648 : Int32)) ((p2 &&& (15 : Int32)).toInt.toNat)))])
  obtain ⟨w, hw1⟩ : ∃ w, w = ((updI (updI (updI (updI (updI (updI (updI (updI (updI (updI (updI (updI (updI (updI (updI (updI (fun _ => 0) (0) (0 : Int32)) (1) (9 : Int32)) (2) (10 : Int32)) (3) (13 : Int32)) (4) (31 : Int32)) (5) (32 : Int32)) (6) (55295 : Int32)) (7) (55296 : Int32)) (8) (57343 : Int32)) (9) (57344 : Int32)) (10) (65533 : Int32)) (11) (65534 : Int32)) (12) (65536 : Int32)) (13) (1114111 : Int32)) (14) (1114112 : Int32)) (15) (-2147483648 : Int32)) ((p2 &&& (15 : Int32)).toInt.toNat)) := ⟨_, rfl⟩
  rw [← hw1]
  refine Goes.step (fun _ k => XS.iloadN X17.here hx rfl (hb hby at_100) rfl k) ?_
  show Goes p e below s _ _ _ T17 (mkF m 101 #[.val (.int p1), .val (.int p2), .val (.int p3), .val (.ref b1), .unset, .unset, .unset] [(.int p3), (.int w)])
  refine Goes.step (fun _ k => XS.iconst X17.here hx rfl (hb hby at_101) k) ?_
  show Goes p e below s _ _ _ T17 (mkF m 102 #[.val (.int p1), .val (.int p2), .val (.int p3), .val (.ref b1), .unset, .unset, .unset] [(.int (3 : Int32)), (.int p3), (.int w)])
  refine Goes.step (fun _ k => iremM X17 hx rfl (hb hby at_102) rfl (by decide) k) ?_
  show Goes p e below s _ _ _ T17 (mkF m 103 #[.val (.int p1), .val (.int p2), .val (.int p3), .val (.ref b1), .unset, .unset, .unset] [(.int (p3 % (3 : Int32))), (.int w)])
  refine Goes.step (fun _ k => XS.iadd X17.here hx rfl (hb hby at_103) rfl k) ?_
  show Goes p e below s _ _ _ T17 (mkF m 104 #[.val (.int p1), .val (.int p2), .val (.int p3), .val (.ref b1), .unset, .unset, .unset] [(.int (w + (p3 % (3 : Int32))))])
  refine Goes.step (fun _ k => XS.istore X17.here hx rfl (hb hby at_104) rfl (l' := #[.val (.int p1), .val (.int p2), .val (.int p3), .val (.ref b1), .val (.int (w + (p3 % (3 : Int32)))), .unset, .unset]) rfl k) ?_
  show Goes p e below s _ _ _ T17 (mkF m 106 #[.val (.int p1), .val (.int p2), .val (.int p3), .val (.ref b1), .val (.int (w + (p3 % (3 : Int32)))), .unset, .unset] [])
  refine Goes.step (fun _ k => XS.iloadN X17.here hx rfl (hb hby at_106) rfl k) ?_
  show Goes p e below s _ _ _ T17 (mkF m 107 #[.val (.int p1), .val (.int p2), .val (.int p3), .val (.ref b1), .val (.int (w + (p3 % (3 : Int32)))), .unset, .unset] [(.int p1)])
  obtain ⟨T18, X18, e18, st18⟩ := callPure X17 hx hZ (y := (⟨"com/example/frond2/frond2/XmlChars", "isChar", "(I)Z"⟩ : MethodName)) hown (hw _ (List.mem_of_getElem? (i := 11) rfl)) (hw _ (List.mem_of_getElem? (i := 12) rfl)) (hw _ (List.mem_of_getElem? (i := 13) rfl)) (hw _ (List.mem_of_getElem? (i := 14) rfl)) (by decide) (W := 0) (argsL := [(.int p1)]) (rest := []) (r := (.int (f1 p1))) (fun _ _ _ q => q) (rm1 l Z a0 hw [] p1 h17 ) (by decide) (by decide) (by decide) (by decide) e17 (g := (mkF m 107 #[.val (.int p1), .val (.int p2), .val (.int p3), .val (.ref b1), .val (.int (w + (p3 % (3 : Int32)))), .unset, .unset] [(.int p1)])) rfl (by rw [hml]; rfl) (lenOf pd_0_0 rfl) rfl (by show 2 * 0 + _ ≤ _; exact Nat.le_of_eq rfl) (hb hby at_107)
  refine Goes.step st18 ?_
  show Goes p e below s _ _ _ T18 (mkF m 110 #[.val (.int p1), .val (.int p2), .val (.int p3), .val (.ref b1), .val (.int (w + (p3 % (3 : Int32)))), .unset, .unset] [(.int (f1 p1))])
  refine Goes.step (fun _ k => XS.iloadN X18.here hx rfl (hb hby at_110) rfl k) ?_
  show Goes p e below s _ _ _ T18 (mkF m 111 #[.val (.int p1), .val (.int p2), .val (.int p3), .val (.ref b1), .val (.int (w + (p3 % (3 : Int32)))), .unset, .unset] [(.int p1), (.int (f1 p1))])
  obtain ⟨T19, X19, e19, st19⟩ := callPure X18 hx hZ (y := (⟨"com/example/frond2/frond2/XmlCharsIsCharPinLaw", "reference", "(I)Z"⟩ : MethodName)) hown (hw _ (List.mem_of_getElem? (i := 15) rfl)) (hw _ (List.mem_of_getElem? (i := 16) rfl)) (hw _ (List.mem_of_getElem? (i := 17) rfl)) (hw _ (List.mem_of_getElem? (i := 18) rfl)) (by decide) (W := 1) (argsL := [(.int p1)]) (rest := [(.int (f1 p1))]) (r := (.int (f2 p1))) (fun _ _ _ q => q) (rm2 l Z a0 hw [] p1 h17 ) (by decide) (by decide) (by decide) (by decide) e18 (g := (mkF m 111 #[.val (.int p1), .val (.int p2), .val (.int p3), .val (.ref b1), .val (.int (w + (p3 % (3 : Int32)))), .unset, .unset] [(.int p1), (.int (f1 p1))])) rfl (by rw [hml]; rfl) (lenOf pd_0_0 rfl) rfl (by show 2 * 0 + _ ≤ _; exact Nat.le_of_eq rfl) (hb hby at_111)
  refine Goes.step st19 ?_
  show Goes p e below s _ _ _ T19 (mkF m 114 #[.val (.int p1), .val (.int p2), .val (.int p3), .val (.ref b1), .val (.int (w + (p3 % (3 : Int32)))), .unset, .unset] [(.int (f2 p1)), (.int (f1 p1))])
  refine Goes.step (fun _ k => XS.icmpNo X19.here hx rfl (hb hby at_114) rfl (teq (own_same p1)).2 k) ?_
  show Goes p e below s _ _ _ T19 (mkF m 117 #[.val (.int p1), .val (.int p2), .val (.int p3), .val (.ref b1), .val (.int (w + (p3 % (3 : Int32)))), .unset, .unset] [])
  refine Goes.step (fun _ k => XS.iconst X19.here hx rfl (hb hby at_117) k) ?_
  show Goes p e below s _ _ _ T19 (mkF m 118 #[.val (.int p1), .val (.int p2), .val (.int p3), .val (.ref b1), .val (.int (w + (p3 % (3 : Int32)))), .unset, .unset] [(.int (1 : Int32))])
  refine Goes.step (fun _ k => XS.goto X19.here hx rfl (pc0 := 118) (pc' := 122) rfl (hb hby at_118) (by decide) (by decide) k) ?_
  show Goes p e below s _ _ _ T19 (mkF m 122 #[.val (.int p1), .val (.int p2), .val (.int p3), .val (.ref b1), .val (.int (w + (p3 % (3 : Int32)))), .unset, .unset] [(.int (1 : Int32))])
  refine Goes.step (fun _ k => XS.istore X19.here hx rfl (hb hby at_122) rfl (l' := #[.val (.int p1), .val (.int p2), .val (.int p3), .val (.ref b1), .val (.int (w + (p3 % (3 : Int32)))), .val (.int (1 : Int32)), .unset]) rfl k) ?_
  show Goes p e below s _ _ _ T19 (mkF m 124 #[.val (.int p1), .val (.int p2), .val (.int p3), .val (.ref b1), .val (.int (w + (p3 % (3 : Int32)))), .val (.int (1 : Int32)), .unset] [])
  refine Goes.step (fun _ k => XS.iload X19.here hx rfl (hb hby at_124) rfl k) ?_
  show Goes p e below s _ _ _ T19 (mkF m 126 #[.val (.int p1), .val (.int p2), .val (.int p3), .val (.ref b1), .val (.int (w + (p3 % (3 : Int32)))), .val (.int (1 : Int32)), .unset] [(.int (w + (p3 % (3 : Int32))))])
  obtain ⟨T20, X20, e20, st20⟩ := callPure X19 hx hZ (y := (⟨"com/example/frond2/frond2/XmlChars", "isChar", "(I)Z"⟩ : MethodName)) hown (hw _ (List.mem_of_getElem? (i := 11) rfl)) (hw _ (List.mem_of_getElem? (i := 12) rfl)) (hw _ (List.mem_of_getElem? (i := 13) rfl)) (hw _ (List.mem_of_getElem? (i := 14) rfl)) (by decide) (W := 0) (argsL := [(.int (w + (p3 % (3 : Int32))))]) (rest := []) (r := (.int (f1 (w + (p3 % (3 : Int32)))))) (fun _ _ _ q => q) (rm1 l Z a0 hw [] (w + (p3 % (3 : Int32))) h17 ) (by decide) (by decide) (by decide) (by decide) e19 (g := (mkF m 126 #[.val (.int p1), .val (.int p2), .val (.int p3), .val (.ref b1), .val (.int (w + (p3 % (3 : Int32)))), .val (.int (1 : Int32)), .unset] [(.int (w + (p3 % (3 : Int32))))])) rfl (by rw [hml]; rfl) (lenOf pd_0_0 rfl) rfl (by show 2 * 0 + _ ≤ _; exact Nat.le_of_eq rfl) (hb hby at_126)
  refine Goes.step st20 ?_
  show Goes p e below s _ _ _ T20 (mkF m 129 #[.val (.int p1), .val (.int p2), .val (.int p3), .val (.ref b1), .val (.int (w + (p3 % (3 : Int32)))), .val (.int (1 : Int32)), .unset] [(.int (f1 (w + (p3 % (3 : Int32)))))])
  refine Goes.step (fun _ k => XS.iload X20.here hx rfl (hb hby at_129) rfl k) ?_
  show Goes p e below s _ _ _ T20 (mkF m 131 #[.val (.int p1), .val (.int p2), .val (.int p3), .val (.ref b1), .val (.int (w + (p3 % (3 : Int32)))), .val (.int (1 : Int32)), .unset] [(.int (w + (p3 % (3 : Int32)))), (.int (f1 (w + (p3 % (3 : Int32)))))])
  obtain ⟨T21, X21, e21, st21⟩ := callPure X20 hx hZ (y := (⟨"com/example/frond2/frond2/XmlCharsIsCharPinLaw", "reference", "(I)Z"⟩ : MethodName)) hown (hw _ (List.mem_of_getElem? (i := 15) rfl)) (hw _ (List.mem_of_getElem? (i := 16) rfl)) (hw _ (List.mem_of_getElem? (i := 17) rfl)) (hw _ (List.mem_of_getElem? (i := 18) rfl)) (by decide) (W := 1) (argsL := [(.int (w + (p3 % (3 : Int32))))]) (rest := [(.int (f1 (w + (p3 % (3 : Int32)))))]) (r := (.int (f2 (w + (p3 % (3 : Int32)))))) (fun _ _ _ q => q) (rm2 l Z a0 hw [] (w + (p3 % (3 : Int32))) h17 ) (by decide) (by decide) (by decide) (by decide) e20 (g := (mkF m 131 #[.val (.int p1), .val (.int p2), .val (.int p3), .val (.ref b1), .val (.int (w + (p3 % (3 : Int32)))), .val (.int (1 : Int32)), .unset] [(.int (w + (p3 % (3 : Int32)))), (.int (f1 (w + (p3 % (3 : Int32)))))])) rfl (by rw [hml]; rfl) (lenOf pd_0_0 rfl) rfl (by show 2 * 0 + _ ≤ _; exact Nat.le_of_eq rfl) (hb hby at_131)
  refine Goes.step st21 ?_
  show Goes p e below s _ _ _ T21 (mkF m 134 #[.val (.int p1), .val (.int p2), .val (.int p3), .val (.ref b1), .val (.int (w + (p3 % (3 : Int32)))), .val (.int (1 : Int32)), .unset] [(.int (f2 (w + (p3 % (3 : Int32))))), (.int (f1 (w + (p3 % (3 : Int32)))))])
  refine Goes.step (fun _ k => XS.icmpNo X21.here hx rfl (hb hby at_134) rfl (teq (own_same _)).2 k) ?_
  show Goes p e below s _ _ _ T21 (mkF m 137 #[.val (.int p1), .val (.int p2), .val (.int p3), .val (.ref b1), .val (.int (w + (p3 % (3 : Int32)))), .val (.int (1 : Int32)), .unset] [])
  refine Goes.step (fun _ k => XS.iconst X21.here hx rfl (hb hby at_137) k) ?_
  show Goes p e below s _ _ _ T21 (mkF m 138 #[.val (.int p1), .val (.int p2), .val (.int p3), .val (.ref b1), .val (.int (w + (p3 % (3 : Int32)))), .val (.int (1 : Int32)), .unset] [(.int (1 : Int32))])
  refine Goes.step (fun _ k => XS.goto X21.here hx rfl (pc0 := 138) (pc' := 142) rfl (hb hby at_138) (by decide) (by decide) k) ?_
  show Goes p e below s _ _ _ T21 (mkF m 142 #[.val (.int p1), .val (.int p2), .val (.int p3), .val (.ref b1), .val (.int (w + (p3 % (3 : Int32)))), .val (.int (1 : Int32)), .unset] [(.int (1 : Int32))])
  refine Goes.step (fun _ k => XS.istore X21.here hx rfl (hb hby at_142) rfl (l' := #[.val (.int p1), .val (.int p2), .val (.int p3), .val (.ref b1), .val (.int (w + (p3 % (3 : Int32)))), .val (.int (1 : Int32)), .val (.int (1 : Int32))]) rfl k) ?_
  show Goes p e below s _ _ _ T21 (mkF m 144 #[.val (.int p1), .val (.int p2), .val (.int p3), .val (.ref b1), .val (.int (w + (p3 % (3 : Int32)))), .val (.int (1 : Int32)), .val (.int (1 : Int32))] [])
  refine Goes.step (fun _ k => XS.iload X21.here hx rfl (hb hby at_144) rfl k) ?_
  show Goes p e below s _ _ _ T21 (mkF m 146 #[.val (.int p1), .val (.int p2), .val (.int p3), .val (.ref b1), .val (.int (w + (p3 % (3 : Int32)))), .val (.int (1 : Int32)), .val (.int (1 : Int32))] [(.int (1 : Int32))])
  refine Goes.step (fun _ k => XS.ifNo X21.here hx rfl (hb hby at_146) rfl ((if0 _ _).trans (feq (by decide : ¬ ((1 : Int32) = (0 : Int32)))).1) k) ?_
  show Goes p e below s _ _ _ T21 (mkF m 149 #[.val (.int p1), .val (.int p2), .val (.int p3), .val (.ref b1), .val (.int (w + (p3 % (3 : Int32)))), .val (.int (1 : Int32)), .val (.int (1 : Int32))] [])
  refine Goes.step (fun _ k => XS.iload X21.here hx rfl (hb hby at_149) rfl k) ?_
  show Goes p e below s _ _ _ T21 (mkF m 151 #[.val (.int p1), .val (.int p2), .val (.int p3), .val (.ref b1), .val (.int (w + (p3 % (3 : Int32)))), .val (.int (1 : Int32)), .val (.int (1 : Int32))] [(.int (1 : Int32))])
  refine Goes.step (fun _ k => XS.ifNo X21.here hx rfl (hb hby at_151) rfl ((if0 _ _).trans (feq (by decide : ¬ ((1 : Int32) = (0 : Int32)))).1) k) ?_
  show Goes p e below s _ _ _ T21 (mkF m 154 #[.val (.int p1), .val (.int p2), .val (.int p3), .val (.ref b1), .val (.int (w + (p3 % (3 : Int32)))), .val (.int (1 : Int32)), .val (.int (1 : Int32))] [])
  refine Goes.step (fun _ k => XS.iconst X21.here hx rfl (hb hby at_154) k) ?_
  show Goes p e below s _ _ _ T21 (mkF m 155 #[.val (.int p1), .val (.int p2), .val (.int p3), .val (.ref b1), .val (.int (w + (p3 % (3 : Int32)))), .val (.int (1 : Int32)), .val (.int (1 : Int32))] [(.int (1 : Int32))])
  refine Goes.step (fun _ k => XS.goto X21.here hx rfl (pc0 := 155) (pc' := 159) rfl (hb hby at_155) (by decide) (by decide) k) ?_
  show Goes p e below s _ _ _ T21 (mkF m 159 #[.val (.int p1), .val (.int p2), .val (.int p3), .val (.ref b1), .val (.int (w + (p3 % (3 : Int32)))), .val (.int (1 : Int32)), .val (.int (1 : Int32))] [(.int (1 : Int32))])
  exact Goes.outN X21 hx hlk (t := .boolean) Bd.returns (by simp) (hb hby at_159) ⟨rfl, N_17⟩ (by decide) (by decide)
set_option maxRecDepth 65536 in
set_option maxHeartbeats 40000000 in
theorem comes_1 {Post : Tables → Env → Array Value → State → Outcome → State → Prop} (hpost : ∀ tb e args s v u, (limb_1_1.after args s (.returned v) u = true ∧ limb_1_2.after args s (.returned v) u = true ∧ True) → FrameEnd s (.returned v) u (Jvm.fieldLocs frame_1_writes args s ++ Jvm.arrayLocs frame_1_arrays args s ++ Jvm.staticLocs frame_1_statics s) 16 128 → Post tb e args s (.returned v) u) :
    ArmFor flags0 classFile x code maxLocals ret World_1 tables_1 room_1 Calls_1 rest_1 Pre_1 Post := by
  intro l hfl _ _ p e ha hc hk s m args below hf hA hF happ hP
  obtain ⟨hcalls, hrest, hpre⟩ := hP
  obtain ⟨-, -, -, hnamed, -, -, -, hat⟩ := (Spec.applies_iff hf).mp happ
  obtain ⟨hg, hn⟩ := and_e (Cond.before_iff.mp (show (Jvm.Cond.and given_1 narrow_1).before args s = true from hpre))
  obtain ⟨hcnt, g0⟩ := and_e hg
  obtain ⟨i0, g1⟩ := and_e g0
  obtain ⟨i1, g2⟩ := and_e g1
  have i2 := g2
  obtain ⟨w0, w1, w2, rfl⟩ : ∃ w0 w1 w2 : Value, args = #[w0, w1, w2] := by
    have hs : args.size = 3 := by simpa [Cond.value, given_1] using hcnt
    obtain ⟨L⟩ := args
    match L, hs with
    | [w0, w1, w2], _ => exact ⟨w0, w1, w2, rfl⟩
  have hw := fun d (hd : d ∈ tables_1) => atoms_spec (ws := Jvm.Cond.code x code maxLocals ret :: tables_1) hat d (List.mem_cons_of_mem _ hd)
  obtain ⟨z0, e0⟩ := is_v i0
  obtain rfl : w0 = (.int z0) := Option.some.inj e0
  obtain ⟨z1, e1⟩ := is_v i1
  obtain rfl : w1 = (.int z1) := Option.some.inj e1
  obtain ⟨z2, e2⟩ := is_v i2
  obtain rfl : w2 = (.int z2) := Option.some.inj e2
  obtain ⟨n, o, h1, h2, h3, v, L, rfl, ⟨rfl, N⟩, hq⟩ := rm0 l s _ hw tables_1 z0 z1 z2  s.heap s.heap.size (Nat.le_refl _)  p e ha hc hk s m _ below hf ((Spec.applies_iff_loose hf).mp happ).1 ⟨rfl, State.Warmed39.refl s, rfl⟩ trivial
  refine ⟨n, _, h1, h2, h3, hpost _ _ _ _ _ _ ⟨Cond.after_iff.mpr rfl, Cond.after_iff.mpr (eq_i res_at (Term.int_eval (1)) rfl), trivial⟩ ⟨hq.1, hq.2.1, (hq.2.2.sift fun y hy => Or.inr (N y hy)).mono (by decide) (by decide)⟩⟩
theorem main_1_1 : Claimed_1_1 := comes_1 fun _ _ _ _ _ _ h hF => ⟨h.1, hF⟩
theorem main_1_2 : Claimed_1_2 := comes_1 fun _ _ _ _ _ _ h hF => ⟨h.2.1, hF⟩
end Jvm.Pilot.@@N@@
namespace Jvm.Pilot.@@N@@
open Jvm Jvm.ClassFile Sem Op Lib Jvm.Free Jvm.Stand Jvm.Pilot.@@N@@.Jvm.D
/-! MADE BY PROGRAM (witnessworld.py) out of the Statement's table words and the real class files: 9 classes; the members and pool entries that the words name. The judged class is class 1, her method 2. -/
namespace start1
open Jvm.ClassFile
def u (s : String) : CpInfo := .utf8 (stringToUtf16 s)
/-- a pool by its gaps: so many unusable entries, then the entry; so many at the end -/
def gap : Nat → List CpInfo → List CpInfo
  | 0, r => r
  | n + 1, r => .unusable :: gap n r
def poolList (es : List (Nat × CpInfo)) (last : Nat) : List CpInfo := es.foldr (fun e r => gap e.1 (e.2 :: r)) (gap last [])
def pool (es : List (Nat × CpInfo)) (last : Nat) : Array CpInfo := ⟨poolList es last⟩
def fileOf (pool : Array CpInfo) (this : Nat) (attrs : Array Attribute := #[]) (ms : Array MethodInfo := #[]) (fl : Nat := 33) (sup : Nat := 0) (ifs : Array Nat := #[]) (fds : Array FieldInfo := #[]) : ClassFile where
  minorVersion := 0
  majorVersion := 65
  constantPool := pool
  accessFlags := fl
  thisClass := this
  superClass := sup
  interfaces := ifs
  fields := fds
  methods := ms
  attributes := attrs
def plain (name : String) (sup : Option ClassId) : Class where
  name := name
  kind := .ordinary
  loader := none
  accessFlags := 33
  super := sup
  interfaces := #[]
  cf := none
  fields := #[]
  methods := #[]
  instanceTypes := #[]
  staticTypes := #[]
  resolved := #[]
  callSites := []
  init := .initialized
  statics := none
  mirror := none

def pool0 : Array CpInfo := pool [(5, u "<init>"), (0, u "()V"), (1, .class_ 10), (1, u "java/lang/Object")] 113

def k0m0 : Method := { name := "<init>", desc := "()V", sig := { parameters := [], returnType := none }, accessFlags := 1, code := none }
/-- java/lang/Object -/
def k0 : Class := { plain "java/lang/Object" none with
  accessFlags := 33
  interfaces := #[]
  cf := some (fileOf pool0 8 #[] #[{ accessFlags := 1, nameIndex := 5, descriptorIndex := 6, attributes := #[] }] 33 0 #[] #[])
  fields := #[]
  methods := #[k0m0]
  instanceTypes := #[]
  staticTypes := #[]
  resolved := Array.replicate 124 none
  statics := none }

def pool1 : Array CpInfo := pool [(2, .class_ 4), (1, u "java/lang/Object"), (0, u "<init>"), (0, u "()V"), (0, .integer 55295), (0, .integer 57344), (0, .integer 65533), (0, .integer 65536), (0, .integer 1114111), (0, .integer 55296), (0, .integer 57343), (0, .integer 65534), (0, .integer 1114112), (2, .integer 2147483648), (0, .methodref 20 21), (0, .class_ 22), (0, .nameAndType 23 24), (0, u "com/example/frond2/frond2/XmlChars"), (0, u "isChar"), (0, u "(I)Z"), (0, .methodref 26 27), (0, .class_ 28), (0, .nameAndType 29 24), (0, u "com/example/frond2/frond2/XmlCharsIsCharPinLaw"), (0, u "reference"), (3, u "law"), (0, u "(III)Z")] 4

def k1m0 : Method := { name := "<init>", desc := "()V", sig := { parameters := [], returnType := none }, accessFlags := 2, code := none }
def k1c1 : Code := { maxStack := 2, maxLocals := 1, code := method_2_code, exceptionTable := #[], attributes := #[] }
def k1m1 : Method := { name := "reference", desc := "(I)Z", sig := { parameters := [.int], returnType := some .boolean }, accessFlags := 10, code := some k1c1 }
def k1c2 : Code := { maxStack := 4, maxLocals := 7, code := code, exceptionTable := #[], attributes := #[] }
def k1m2 : Method := { name := "law", desc := "(III)Z", sig := { parameters := [.int, .int, .int], returnType := some .boolean }, accessFlags := 9, code := some k1c2 }
/-- com/example/frond2/frond2/XmlCharsIsCharPinLaw -/
def k1 : Class := { plain "com/example/frond2/frond2/XmlCharsIsCharPinLaw" (some 0) with
  accessFlags := 49
  interfaces := #[]
  cf := some (fileOf pool1 26 #[] #[{ accessFlags := 2, nameIndex := 5, descriptorIndex := 6, attributes := #[] }, { accessFlags := 10, nameIndex := 29, descriptorIndex := 24, attributes := #[] }, { accessFlags := 9, nameIndex := 33, descriptorIndex := 34, attributes := #[] }] 49 2 #[] #[])
  fields := #[]
  methods := #[k1m0, k1m1, k1m2]
  instanceTypes := #[]
  staticTypes := #[]
  resolved := Array.replicate 39 none
  statics := none }

def pool2 : Array CpInfo := pool [(2, .class_ 4), (1, u "java/lang/Object"), (0, u "<init>"), (0, u "()V"), (1, .class_ 10), (1, u "com/example/frond2/frond2/XmlChars"), (0, u "ASCII"), (0, u "[B"), (2, u "NAME_START_CHARS"), (0, u "[I"), (6, u "OTHER_NAME_CHARS"), (0, .integer 55295), (0, .integer 57344), (0, .integer 65533), (0, .integer 65536), (0, .integer 1114111), (18, u "(I)Z"), (27, u "PUBID_PUNCTUATION"), (0, u "Ljava/lang/String;"), (1, u "START"), (0, u "B"), (1, u "NAME"), (4, u "isChar")] 6

def k2m0 : Method := { name := "<init>", desc := "()V", sig := { parameters := [], returnType := none }, accessFlags := 2, code := none }
def k2c1 : Code := { maxStack := 2, maxLocals := 1, code := prog_37_method_4_code, exceptionTable := #[], attributes := #[] }
def k2m1 : Method := { name := "isChar", desc := "(I)Z", sig := { parameters := [.int], returnType := some .boolean }, accessFlags := 8, code := some k2c1 }
/-- com/example/frond2/frond2/XmlChars -/
def k2 : Class := { plain "com/example/frond2/frond2/XmlChars" (some 0) with
  accessFlags := 48
  interfaces := #[]
  cf := some (fileOf pool2 8 #[] #[{ accessFlags := 2, nameIndex := 5, descriptorIndex := 6, attributes := #[] }, { accessFlags := 8, nameIndex := 86, descriptorIndex := 47, attributes := #[] }] 48 2 #[] #[{ accessFlags := 26, nameIndex := 15, descriptorIndex := 16, attributes := #[] }, { accessFlags := 26, nameIndex := 23, descriptorIndex := 16, attributes := #[] }, { accessFlags := 26, nameIndex := 75, descriptorIndex := 76, attributes := #[] }, { accessFlags := 26, nameIndex := 78, descriptorIndex := 79, attributes := #[] }, { accessFlags := 26, nameIndex := 81, descriptorIndex := 79, attributes := #[] }, { accessFlags := 26, nameIndex := 11, descriptorIndex := 12, attributes := #[] }])
  fields := #[{ name := "NAME_START_CHARS", type := (.array .int), accessFlags := 26, slot := 0, constantValue := 0 }, { name := "OTHER_NAME_CHARS", type := (.array .int), accessFlags := 26, slot := 1, constantValue := 0 }, { name := "PUBID_PUNCTUATION", type := (.object "java/lang/String"), accessFlags := 26, slot := 2, constantValue := 0 }, { name := "START", type := .byte, accessFlags := 26, slot := 3, constantValue := 0 }, { name := "NAME", type := .byte, accessFlags := 26, slot := 4, constantValue := 0 }, { name := "ASCII", type := (.array .byte), accessFlags := 26, slot := 5, constantValue := 0 }]
  methods := #[k2m0, k2m1]
  instanceTypes := #[]
  staticTypes := #[(.array .int), (.array .int), (.object "java/lang/String"), .byte, .byte, (.array .byte)]
  resolved := Array.replicate 93 none
  statics := none }

def pool3 : Array CpInfo := pool [(1, u "java/lang/Cloneable"), (0, .class_ 1), (0, u "java/lang/Object"), (0, .class_ 3)] 3

/-- java/lang/Cloneable -/
def k3 : Class := { plain "java/lang/Cloneable" (some 0) with
  accessFlags := 1537
  interfaces := #[]
  cf := some (fileOf pool3 2 #[] #[] 1537 4 #[] #[])
  fields := #[]
  methods := #[]
  instanceTypes := #[]
  staticTypes := #[]
  resolved := Array.replicate 8 none
  statics := none }

def pool4 : Array CpInfo := pool [(1, u "java/io/Serializable"), (0, .class_ 1), (0, u "java/lang/Object"), (0, .class_ 3)] 3

/-- java/io/Serializable -/
def k4 : Class := { plain "java/io/Serializable" (some 0) with
  accessFlags := 1537
  interfaces := #[]
  cf := some (fileOf pool4 2 #[] #[] 1537 4 #[] #[])
  fields := #[]
  methods := #[]
  instanceTypes := #[]
  staticTypes := #[]
  resolved := Array.replicate 8 none
  statics := none }

/-- the primitive byte -/
def k5 : Class := { plain "byte" none with kind := .primitive 'B', accessFlags := 0x411 }
/-- [B -/
def k6 : Class := { plain "[B" (some 0) with kind := .array 5 .byte, interfaces := #[3, 4], accessFlags := 1041 }

/-- the primitive int -/
def k7 : Class := { plain "int" none with kind := .primitive 'I', accessFlags := 0x411 }
/-- [I -/
def k8 : Class := { plain "[I" (some 0) with kind := .array 7 .int, interfaces := #[3, 4], accessFlags := 1041 }

def heap : Heap := #[]
def classes : Array Class := #[k0, k1, k2, k3, k4, k5, k6, k7, k8]
def interned : List (Array UInt16 × Addr) := []
def slotsUsed : Nat := 0
def theMethod : MethodId := ⟨1, 2⟩
def args0 : Array Value := #[.int 9, .int 5, .int 4]
def aboutOver (below : List Frame) : State where
  vm := { classes := classes, interned := interned.toArray }
  heap := heap
  slotsUsed := slotsUsed
  threads := #[{ frames := .invoking theMethod args0 :: below }]
def below0 : List Frame := [.native { method := ⟨0, 0⟩, args := #[] }]
def about1 : State := aboutOver below0
def p0 : Program := .bare "" "" ""
def e0 : Env := launch0.env 0 0 0
theorem w_frames : about1.frames = Frame.invoking theMethod args0 :: below0 := rfl
set_option maxRecDepth 65536 in
theorem w_args : argsFit about1.vm theMethod args0 = true := by decide +kernel
set_option maxRecDepth 65536 in
theorem w_heap : heapFits about1 = true := by decide +kernel
set_option maxRecDepth 65536 in
theorem w_runnable : about1.curStatus? = some .runnable := by decide +kernel
set_option maxRecDepth 65536 in
theorem w_alone : about1.alone = true := by decide +kernel
set_option maxRecDepth 65536 in
theorem w_named : about1.methodNamed? x = some theMethod := by decide +kernel
set_option maxRecDepth 65536 in
theorem w_hears : about1.hears theMethod below0 = true := by decide +kernel
set_option maxRecDepth 65536 in
theorem w_ripe : about1.ripe theMethod args0 below0 = true := by decide +kernel
theorem w_running : about1.status = .running := rfl
set_option maxRecDepth 65536 in
theorem w_room : about1.hasRoom e0.platform room_1 = true :=
  launch0.hasRoom_least _ room_1 (by decide +kernel) (by decide +kernel) (by decide +kernel) (by decide +kernel) (by decide +kernel) (by decide +kernel)
theorem allAtoms_all (ts : List Jvm.Cond) (a : Array Jvm.Value) (st : Jvm.State) : (allAtoms ts).before a st = ts.all (fun c => c.before a st) := by
  induction ts with
  | nil => rfl
  | cons c t ih =>
    show (Jvm.Cond.and c (allAtoms t)).before a st = _
    rw [Jvm.Cond.before_and, ih, List.all_cons]
def words1 : List Jvm.Cond := Jvm.Cond.code x code maxLocals ret :: tables_1
/-- a 'code' word, met by the world's own term for the bytes: nothing is compared byte by byte -/
theorem code_word {y : MethodName} {bytes : ByteArray} {mx : Nat} {rt : Option FieldType} {a : Array Value} {s : State} {m : MethodId} {meth : Method} {c : Code} (h1 : s.methodNamed? y = some m) (h2 : s.vm.method? m = some meth) (h3 : meth.code = some c) (h4 : c.code = bytes)
    (h5 : (c.maxLocals == mx && c.exceptionTable.isEmpty && decide (c.maxStack ≤ mostOperands) && decide (meth.sig.returnType = rt) && !meth.locks && decide (parseMethodDescriptor y.desc = some meth.sig)) = true) : (Jvm.Cond.code y bytes mx rt).before a s = true := by
  simp only [Bool.and_eq_true, beq_iff_eq, Bool.not_eq_true', decide_eq_true_eq] at h5
  obtain ⟨⟨⟨⟨⟨g1, g2⟩, g3⟩, g4⟩, g5⟩, g6⟩ := h5
  simp [Cond.before, Cond.holds, Cond.value, h1, h2, h3, h4, g1, g2, g3, g4, g5, g6]
def isCode : Jvm.Cond → Bool
  | .code _ _ _ _ => true
  | _ => false
theorem all_split {L : List Jvm.Cond} {P : Jvm.Cond → Bool} (h1 : L.all (fun c => isCode c || P c) = true) (h2 : ∀ c ∈ L.filter isCode, P c = true) : L.all P = true := by
  refine List.all_eq_true.mpr fun c hc => ?_
  have h := List.all_eq_true.mp h1 c hc
  rcases Bool.eq_false_or_eq_true (isCode c) with hi | hi
  · exact h2 c (List.mem_filter.mpr ⟨hc, hi⟩)
  · simpa [hi] using h
set_option maxRecDepth 65536 in
theorem w_c0 : (Jvm.Cond.code x code maxLocals ret).before args0 about1 = true := code_word (m := ⟨1, 2⟩) (meth := k1m2) (c := k1c2) (by decide +kernel) rfl rfl rfl (by decide +kernel)
set_option maxRecDepth 65536 in
theorem w_c1 : (Jvm.Cond.code ({ cls := "com/example/frond2/frond2/XmlChars", name := "isChar", desc := "(I)Z" } : Jvm.MethodName) prog_37_method_4_code (1 : Nat) (Option.some Jvm.ClassFile.FieldType.boolean)).before args0 about1 = true := code_word (m := ⟨2, 1⟩) (meth := k2m1) (c := k2c1) (by decide +kernel) rfl rfl rfl (by decide +kernel)
set_option maxRecDepth 65536 in
theorem w_c2 : (Jvm.Cond.code ({ cls := "com/example/frond2/frond2/XmlCharsIsCharPinLaw", name := "reference", desc := "(I)Z" } : Jvm.MethodName) method_2_code (1 : Nat) (Option.some Jvm.ClassFile.FieldType.boolean)).before args0 about1 = true := code_word (m := ⟨1, 1⟩) (meth := k1m1) (c := k1c1) (by decide +kernel) rfl rfl rfl (by decide +kernel)
def codes1 : List Jvm.Cond := [Jvm.Cond.code x code maxLocals ret, Jvm.Cond.code ({ cls := "com/example/frond2/frond2/XmlChars", name := "isChar", desc := "(I)Z" } : Jvm.MethodName) prog_37_method_4_code (1 : Nat) (Option.some Jvm.ClassFile.FieldType.boolean), Jvm.Cond.code ({ cls := "com/example/frond2/frond2/XmlCharsIsCharPinLaw", name := "reference", desc := "(I)Z" } : Jvm.MethodName) method_2_code (1 : Nat) (Option.some Jvm.ClassFile.FieldType.boolean)]
set_option maxRecDepth 65536 in
theorem codes_eq : words1.filter isCode = codes1 := rfl
theorem w_codes : ∀ c ∈ words1.filter isCode, c.before args0 about1 = true := by
  rw [codes_eq]
  intro c hc
  simp only [codes1, List.mem_cons, List.not_mem_nil, or_false] at hc
  rcases hc with rfl | rfl | rfl
  · exact w_c0
  · exact w_c1
  · exact w_c2
set_option maxRecDepth 65536 in
theorem w_t1 : (words1.take 24).all (fun c => isCode c || c.before args0 about1) = true := by decide +kernel
set_option maxRecDepth 65536 in
theorem w_t2 : (words1.drop 24).all (fun c => isCode c || c.before args0 about1) = true := by decide +kernel
theorem w_tables : (allAtoms (Jvm.Cond.code x code maxLocals ret :: tables_1)).before args0 about1 = true := by
  rw [allAtoms_all]
  show words1.all (fun c => c.before args0 about1) = true
  refine all_split ?_ w_codes
  rw [← List.take_append_drop 24 words1, List.all_append, w_t1, w_t2]
  rfl
set_option maxRecDepth 65536 in
theorem w_case : (Jvm.Cond.and given_1 narrow_1).before args0 about1 = true := by decide +kernel
theorem w_applies : (headSpec (Jvm.Cond.code x code maxLocals ret :: tables_1) room_1).applies x e0.platform about1 = true :=
  (Spec.applies_iff w_frames).mpr ⟨w_running, w_runnable, w_alone, w_named, w_hears, w_ripe, w_room, w_tables⟩
theorem atStart : AtStart classFile x code maxLocals ret World_1 tables_1 room_1 Calls_1 rest_1 Pre_1 launch0 p0 e0 about1 theMethod args0 below0 :=
  ⟨lists_1, trivial, launch0.admits_env _ _ _, launch0.least_env, fairChoices_fair.cas, fairChoices_fair.clock, w_frames, w_args, w_heap, w_applies, trivial, trivial, w_case⟩
end start1
theorem witness_1 : WitnessClaimed_1 := ⟨start1.p0, start1.e0, start1.about1, start1.theMethod, start1.args0, start1.below0, start1.atStart⟩
end Jvm.Pilot.@@N@@
