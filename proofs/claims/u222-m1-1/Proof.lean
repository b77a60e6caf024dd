import JvmDerived
import JvmDerived.Pilot.@@N@@Statement
import JvmDerived.Pilot.@@N@@Code
set_option linter.unusedVariables false
set_option linter.unusedSimpArgs false
namespace Jvm.RoadKit
open Sem ClassFile Op Lib Jvm.Stand Jvm.Free Jvm.LawKit
section Own
variable {p : Program} {l : Launch} {e : Env} {R : Room} {s : State} {m : MethodId} {args : Array Value} {below : List Frame} {meth : Method} {c : Code} {T : State} {locs : List Loc} {cells slots : Nat} {Z : State} {a0 : Array Value} {h : Heap}
/-- what is left of a body: from the frame g on it ends, and Q holds of what it returns, the heap and the places written -/
def Goes (p : Program) (e : Env) (below : List Frame) (s : State) (K N : Nat) (Q : Option Value → Heap → List Loc → Prop) (T : State) (g : JFrame) : Prop :=
  ∃ s₂ o, Steps p.tables e below (T.setTop g) s₂ ∧ s₂.status = .running ∧ Ended s₂ below o ∧ ∃ v L, o = .returned v ∧ Q v s₂.heap L ∧ FrameEnd s o s₂ L K N
theorem Goes.step {K N : Nat} {Q : Option Value → Heap → List Loc → Prop} {T' : State} {g g' : JFrame} (k : ∀ t, Steps p.tables e below (T'.setTop g') t → Steps p.tables e below (T.setTop g) t) (h : Goes p e below s K N Q T' g') : Goes p e below s K N Q T g := by
  obtain ⟨s₂, o, h1, h2⟩ := h
  exact ⟨s₂, o, k _ h1, h2⟩
theorem Goes.jump {K N : Nat} {Q : Option Value → Heap → List Loc → Prop} {T' : State} {g g' : JFrame} (k : Steps p.tables e below (T.setTop g) (T'.setTop g')) (h : Goes p e below s K N Q T' g') : Goes p e below s K N Q T g :=
  Goes.step (fun _ q => k.trans q) h
theorem Goes.ite {K N : Nat} {α : Type} {Q : α → Option Value → Heap → List Loc → Prop} {g : JFrame} {a b : α} {d : Prop} [Decidable d] (h1 : d → Goes p e below s K N (Q a) T g) (h2 : ¬ d → Goes p e below s K N (Q b) T g) : Goes p e below s K N (Q (if d then a else b)) T g := by
  split
  · next q => exact h1 q
  · next q => exact h2 q
theorem Goes.imp {K N : Nat} {Q Q' : Option Value → Heap → List Loc → Prop} {g : JFrame} (q : ∀ v h L, Q v h L → Q' v h L) (h : Goes p e below s K N Q T g) : Goes p e below s K N Q' T g := by
  obtain ⟨s₂, o, h1, h2, h3, v, L, h4, h5, h6⟩ := h
  exact ⟨s₂, o, h1, h2, h3, v, L, h4, q _ _ _ h5, h6⟩
theorem retI (X : Stand p l e R s m args below meth c T locs cells slots) (hx : p.tables.exec = Jvm.exec) {pc : Nat} {Ls : Array Slot} {z : Int32} {rest : List Value} (hret : meth.sig.returnType = some .int) (hd : decode c.code pc = .ok (.ireturn, 1)) {fs : List Frame}
    (hl : ∀ (f : JFrame) (acts : List Action), f.method = m → f.locked = none → f.entered = [] → (doReturn e (T.setTop f) acts (some (.int z))).1 = T.setFrames fs) : Steps p.tables e below (T.setTop (mkF m pc Ls (.int z :: rest))) (T.setFrames fs) := by
  have hm' : T.vm.method? m = some meth := X.method'
  have hn : narrow .int (.int z) = .int z := rfl
  show Steps p.tables e below (T.setTop { method := m, pc := pc, locals := Ls, stack := _ :: rest, locked := none }) _
  jvm_step X.here [X.here.top, hx, hd, hm', hret, hn]
  first | (intro acts; rw [hl _ acts rfl rfl rfl]) | rw [hl _ _ rfl rfl rfl]
  exact Steps.refl _
theorem retJ (X : Stand p l e R s m args below meth c T locs cells slots) (hx : p.tables.exec = Jvm.exec) {pc : Nat} {Ls : Array Slot} {z : Int64} {rest : List Value} (hret : meth.sig.returnType = some .long) (hd : decode c.code pc = .ok (.lreturn, 1)) {fs : List Frame}
    (hl : ∀ (f : JFrame) (acts : List Action), f.method = m → f.locked = none → f.entered = [] → (doReturn e (T.setTop f) acts (some (.long z))).1 = T.setFrames fs) : Steps p.tables e below (T.setTop (mkF m pc Ls (.long z :: rest))) (T.setFrames fs) :=
  retOut X hx hret rfl (Or.inr (Or.inl ⟨rfl, rfl, z, rfl⟩)) hd hl
theorem Goes.outI (X : Stand p l e R s m args below meth c T locs cells slots) (hx : p.tables.exec = Jvm.exec) (hlk : meth.locks = false) (hret : meth.sig.returnType = some .int) {pc : Nat} (hd : decode c.code pc = .ok (.ireturn, 1)) {Ls : Array Slot} {z : Int32} {rest : List Value} {K N : Nat} {Q : Option Value → Heap → List Loc → Prop}
    (hq : Q (some (.int z)) T.heap locs) (hk : cells ≤ K) (hn : slots ≤ N) : Goes p e below s K N Q T (mkF m pc Ls (.int z :: rest)) := by
  obtain ⟨fs, hr, hrun, hended, hW, hsame⟩ := X.leave (v := some (.int z)) (fun h => by rw [hret] at h; cases h) hlk
  exact ⟨_, _, retI X hx hret hd hr, hrun, hended, _, _, rfl, hq, ⟨_, rfl⟩, hW, hsame.mono hk hn⟩
theorem Goes.outJ (X : Stand p l e R s m args below meth c T locs cells slots) (hx : p.tables.exec = Jvm.exec) (hlk : meth.locks = false) (hret : meth.sig.returnType = some .long) {pc : Nat} (hd : decode c.code pc = .ok (.lreturn, 1)) {Ls : Array Slot} {z : Int64} {rest : List Value} {K N : Nat} {Q : Option Value → Heap → List Loc → Prop}
    (hq : Q (some (.long z)) T.heap locs) (hk : cells ≤ K) (hn : slots ≤ N) : Goes p e below s K N Q T (mkF m pc Ls (.long z :: rest)) := by
  obtain ⟨fs, hr, hrun, hended, hW, hsame⟩ := X.leave (v := some (.long z)) (fun h => by rw [hret] at h; cases h) hlk
  exact ⟨_, _, retJ X hx hret hd hr, hrun, hended, _, _, rfl, hq, ⟨_, rfl⟩, hW, hsame.mono hk hn⟩
theorem Goes.outN (X : Stand p l e R s m args below meth c T locs cells slots) (hx : p.tables.exec = Jvm.exec) (hlk : meth.locks = false) {t : FieldType} (hret : meth.sig.returnType = some t) (ht : t = .boolean ∨ t = .byte ∨ t = .char ∨ t = .short) {pc : Nat} (hd : decode c.code pc = .ok (.ireturn, 1)) {Ls : Array Slot} {z : Int32} {rest : List Value} {K N : Nat} {Q : Option Value → Heap → List Loc → Prop}
    (hq : Q (some (.int (nar t z))) T.heap locs) (hk : cells ≤ K) (hn : slots ≤ N) : Goes p e below s K N Q T (mkF m pc Ls (.int z :: rest)) := by
  obtain ⟨fs, hr, hrun, hended, hW, hsame⟩ := X.leave (v := some (.int (nar t z))) (fun h => by rw [hret] at h; cases h) hlk
  exact ⟨_, _, retN X hx hret ht hd hr, hrun, hended, _, _, rfl, hq, ⟨_, rfl⟩, hW, hsame.mono hk hn⟩
theorem Goes.outV (X : Stand p l e R s m args below meth c T locs cells slots) (hx : p.tables.exec = Jvm.exec) (hlk : meth.locks = false) (hret : meth.sig.returnType = none) {pc : Nat} (hd : decode c.code pc = .ok (.return_, 1)) {Ls : Array Slot} {K N : Nat} {Q : Option Value → Heap → List Loc → Prop}
    (hq : Q none T.heap locs) (hk : cells ≤ K) (hn : slots ≤ N) : Goes p e below s K N Q T (mkF m pc Ls []) := by
  obtain ⟨fs, hr, hrun, hended, hW, hsame⟩ := X.leave (v := none) (fun _ => rfl) hlk
  exact ⟨_, _, X.returnOut hx hret hd hr, hrun, hended, _, _, rfl, hq, ⟨_, rfl⟩, hW, hsame.mono hk hn⟩
theorem Goes.outR (X : Stand p l e R s m args below meth c T locs cells slots) (hx : p.tables.exec = Jvm.exec) (hlk : meth.locks = false) {t : FieldType} (hret : meth.sig.returnType = some t) (ht : t.isReference = true) {w : Value} (hw : w.isRef = true) {pc : Nat} (hd : decode c.code pc = .ok (.areturn, 1)) {Ls : Array Slot} {K N : Nat} {Q : Option Value → Heap → List Loc → Prop}
    (hq : Q (some w) T.heap locs) (hk : cells ≤ K) (hn : slots ≤ N) : Goes p e below s K N Q T (mkF m pc Ls [w]) := by
  obtain ⟨fs, hr, hrun, hended, hW, hsame⟩ := X.leave (v := some w) (fun h => by rw [hret] at h; cases h) hlk
  exact ⟨_, _, X.areturnOut hx hw hret ht hd hr, hrun, hended, _, _, rfl, hq, ⟨_, rfl⟩, hW, hsame.mono hk hn⟩
/-- a body that returns v and leaves the heap as it was -/
def PV (h0 : Heap) (r : Value) (v : Option Value) (h : Heap) (L : List Loc) : Prop := v = some r ∧ L = [] ∧ h = h0
def PI (h0 : Heap) (r : Int32) (v : Option Value) (h : Heap) (L : List Loc) : Prop := PV h0 (.int r) v h L
def PJ (h0 : Heap) (r : Int64) (v : Option Value) (h : Heap) (L : List Loc) : Prop := PV h0 (.long r) v h L
def PA (h0 : Heap) (r : Addr) (v : Option Value) (h : Heap) (L : List Loc) : Prop := PV h0 (.ref r) v h L
/-- a reference that may be null -/
def ov : Option Addr → Value
  | none => .null
  | some b => .ref b
def PO (h0 : Heap) (r : Option Addr) (v : Option Value) (h : Heap) (L : List Loc) : Prop := PV h0 (ov r) v h L
theorem ov_cat (o : Option Addr) : (ov o).category = 1 := by cases o <;> rfl
theorem ov_inj {a b : Option Addr} : (ov a = ov b) = (a = b) := by cases a <;> cases b <;> simp [ov]
theorem ov_ref (o : Option Addr) : (ov o).isRef = true := by cases o <;> rfl
/-- a virtual call of a body that leaves the heap as it was -/
theorem callPureV (X : Stand p l e R s m args below meth c T locs cells slots) (hx : p.tables.exec = Jvm.exec) (hZ : Z.Warmed39 s.vm) {own C : String} {index : Nat} {y z : MethodName} {bytes : ByteArray} {maxL : Nat} {ret : Option FieldType} (hown : s.vm.findClass own = some m.cls)
    (w1 : (Cond.methodLink own index y).before a0 Z = true) (w2 : (Cond.declares y).before a0 Z = true) (w3 : (Cond.selects C y z).before a0 Z = true) (w4 : (Cond.instanceMethod z).before a0 Z = true) (w5 : (Cond.code z bytes maxL ret).before a0 Z = true) (w6 : (Cond.initialized z.cls).before a0 Z = true) (hnf : NotFace s y) (hy : y.cls ≠ "java/lang/invoke/MethodHandle" ∧ y.cls ≠ "java/lang/invoke/VarHandle")
    {F W0 W : Nat} {b : Addr} {argsL rest : List Value} {r : Value} {Q : Option Value → Heap → List Loc → Prop} (hQ : ∀ v h' L, Q v h' L → PV h r v h' L)
    (hM : MetFree l z (head1 [Cond.code z bytes maxL ret] ({ frames := F, cells := 0, slots := 0, locals := W0 } : Room)) (fun a U => a = (.ref b :: argsL).toArray ∧ Z.Warmed39 U.vm ∧ U.heap = h) (fun _ _ _ _ _ => True) (fun _ U o U' => ∃ v L, o = .returned v ∧ Q v U'.heap L ∧ FrameEnd U o U' L ({ frames := F, cells := 0, slots := 0, locals := W0 } : Room).cells ({ frames := F, cells := 0, slots := 0, locals := W0 } : Room).slots))
    (hf : F + 1 ≤ R.frames) (hl : W + (maxL + 11) + W0 ≤ R.locals) (hc : cells ≤ R.cells) (hs : slots ≤ R.slots) (eT : T.heap = h) (E : Exa Z h b C) {g : JFrame} (hg : g.method = m) (hsize : g.locals.size = c.maxLocals) (hlen : ∀ sig, parseMethodDescriptor y.desc = some sig → argsL.length = sig.parameters.length)
    (hstack : g.stack = argsL.reverse ++ .ref b :: rest) (hW : 2 * g.monitorRoom + (rest.map fun v => v.category).sum ≤ W) (hd : decode c.code g.pc = .ok (.invokevirtual index, 3)) :
    ∃ T', Stand p l e R s m args below meth c T' locs cells slots ∧ T'.heap = h ∧ ∀ target, Steps p.tables e below (T'.setTop { g with pc := g.pc + 3, stack := r :: rest }) target → Steps p.tables e below (T.setTop g) target := by
  obtain ⟨cq, kq, qa, qb, qc⟩ := isOf hZ eT E
  obtain ⟨_, _, ⟨T18, L18, k18, n18⟩, -, X18, ⟨Lc, hq, l18, y18, z18⟩, st⟩ := X.virtualBack hx hown (mvT hZ w1) (mvT hZ w2) hnf (mvT hZ w3) (mvT hZ w4) hy (backOf (W := W) hM hZ w5 w6 hf hl) qa qc hg hsize (Steps.refl _) hlen hstack hW hd (fun _ _ => ⟨rfl, eT, hc, hs⟩)
  dsimp only [Pt.U, Pt.locs, Pt.cells, Pt.slots] at X18 l18 y18 z18 st hq
  subst l18 y18 z18
  obtain ⟨rfl, rfl, e18⟩ := hQ _ _ _ hq
  rw [List.append_nil] at X18
  exact ⟨T18, X18, e18, fun _ k => st.trans k⟩
/-- a static call of a body that leaves the heap as it was -/
theorem callPure (X : Stand p l e R s m args below meth c T locs cells slots) (hx : p.tables.exec = Jvm.exec) (hZ : Z.Warmed39 s.vm) {own : String} {index : Nat} {y : MethodName} {bytes : ByteArray} {maxL : Nat} {ret : Option FieldType} (hown : s.vm.findClass own = some m.cls)
    (w1 : (Cond.methodLink own index y).before a0 Z = true) (w2 : (Cond.static y).before a0 Z = true) (w3 : (Cond.initialized y.cls).before a0 Z = true) (w4 : (Cond.code y bytes maxL ret).before a0 Z = true) (hy : y.cls ≠ "java/lang/invoke/MethodHandle" ∧ y.cls ≠ "java/lang/invoke/VarHandle")
    {F W0 W : Nat} {argsL rest : List Value} {r : Value} {Q : Option Value → Heap → List Loc → Prop} (hQ : ∀ v h' L, Q v h' L → PV h r v h' L)
    (hM : MetFree l y (head1 [Cond.code y bytes maxL ret] ({ frames := F, cells := 0, slots := 0, locals := W0 } : Room)) (fun a U => a = argsL.toArray ∧ Z.Warmed39 U.vm ∧ U.heap = h) (fun _ _ _ _ _ => True) (fun _ U o U' => ∃ v L, o = .returned v ∧ Q v U'.heap L ∧ FrameEnd U o U' L ({ frames := F, cells := 0, slots := 0, locals := W0 } : Room).cells ({ frames := F, cells := 0, slots := 0, locals := W0 } : Room).slots))
    (hf : F + 1 ≤ R.frames) (hl : W + (maxL + 11) + W0 ≤ R.locals) (hc : cells ≤ R.cells) (hs : slots ≤ R.slots) (eT : T.heap = h) {g : JFrame} (hg : g.method = m) (hsize : g.locals.size = c.maxLocals) (hlen : ∀ sig, parseMethodDescriptor y.desc = some sig → argsL.length = sig.parameters.length)
    (hstack : g.stack = argsL.reverse ++ rest) (hW : 2 * g.monitorRoom + (rest.map fun v => v.category).sum ≤ W) (hd : decode c.code g.pc = .ok (.invokestatic index, 3)) :
    ∃ T', Stand p l e R s m args below meth c T' locs cells slots ∧ T'.heap = h ∧ ∀ target, Steps p.tables e below (T'.setTop { g with pc := g.pc + 3, stack := r :: rest }) target → Steps p.tables e below (T.setTop g) target := by
  obtain ⟨_, _, ⟨T18, L18, k18, n18⟩, -, X18, ⟨Lc, hq, l18, y18, z18⟩, st⟩ := Jvm.LawKit.callS X hx hown (mvT hZ w1) (mvT hZ w2) (mvT hZ w3) (mvT hZ w4) hy (backOf (W := W) hM hZ w4 w3 hf hl) hg hsize hlen hstack hW hd (fun _ _ => ⟨rfl, eT, hc, hs⟩)
  dsimp only [Pt.U, Pt.locs, Pt.cells, Pt.slots] at X18 l18 y18 z18 st hq
  subst l18 y18 z18
  obtain ⟨rfl, rfl, e18⟩ := hQ _ _ _ hq
  rw [List.append_nil] at X18
  exact ⟨T18, X18, e18, st⟩
end Own
end Jvm.RoadKit
namespace Jvm.RoadKit
open Sem ClassFile Op Lib Jvm.Stand Jvm.Free Jvm.LawKit
section OwnHeap
variable {p : Program} {l : Launch} {e : Env} {R : Room} {s : State} {m : MethodId} {args : Array Value} {below : List Frame} {meth : Method} {c : Code} {T : State} {locs : List Loc} {cells slots : Nat} {Z : State} {a0 : Array Value} {h h' : Heap} {a b : Addr} {ty : FieldType} {n : Nat} {f : Nat → Int32}
/-- a law's end: what it returns; nothing old was written -/
def PG (n0 : Nat) (r : Int32) (v : Option Value) (h : Heap) (L : List Loc) : Prop := v = some (.int r) ∧ Fr n0 L
/-- an array of n ints (bytes, chars ..): place j holds f j -/
def Ari (Z : State) (h : Heap) (a : Addr) (ty : FieldType) (n : Nat) (f : Nat → Int32) : Prop := ∃ c : Cell, Arr Z h a c ty ∧ c.slots.size = n ∧ n < 2 ^ 31 ∧ ∀ j, j < n → c.slots[j]? = some (.int (f j)) ∧ fits ty (.int (f j)) = true
theorem Ari.lt (F : Ari Z h a ty n f) : a < h.size := by obtain ⟨c, A, -⟩ := F; exact A.lt
theorem Ari.ext (F : Ari Z h a ty n f) (E : Ext h h') : Ari Z h' a ty n f := by obtain ⟨c, A, r⟩ := F; exact ⟨c, A.ext E, r⟩
theorem Ari.other {v : Value} {sl : Nat} (F : Ari Z h b ty n f) (W : Wr h h' a sl v) (q : b ≠ a) : Ari Z h' b ty n f := by obtain ⟨c, A, r⟩ := F; exact ⟨c, A.other W q, r⟩
theorem Ari.keep {ws : List Addr} (F : Ari Z h a ty n f) (K : Keep h h' ws) (q : a ∉ ws) : Ari Z h' a ty n f := by obtain ⟨c, A, r⟩ := F; exact ⟨c, ⟨K.2.1 a c A.1 q, A.2⟩, r⟩
theorem Ari.cast {g : Nat → Int32} (F : Ari Z h a ty n f) (q : ∀ j, j < n → f j = g j) : Ari Z h a ty n g := by
  obtain ⟨c, A, h1, h2, h3⟩ := F
  exact ⟨c, A, h1, h2, fun j hj => by rw [← q j hj]; exact h3 j hj⟩
def updI (f : Nat → Int32) (i : Nat) (x : Int32) : Nat → Int32 := fun j => if j = i then x else f j
theorem Ari.store {i : Nat} {x : Int32} (F : Ari Z h a ty n f) (W : Wr h h' a i (.int x)) (hi : i < n) (hx : fits ty (.int x) = true) : Ari Z h' a ty n (updI f i x) := by
  obtain ⟨c, A, h1, h2, h3⟩ := F
  refine ⟨c.setSlot i (.int x), A.same W, by rw [sz_set]; exact h1, h2, fun j hj => ?_⟩
  by_cases e : j = i
  · subst e
    simp only [updI, if_true]
    exact ⟨by simp [Cell.setSlot, h1, hj], hx⟩
  · simp only [updI, e, if_false]
    exact ⟨by rw [← (h3 j hj).1]; simp [Cell.setSlot, Array.getElem?_setIfInBounds, Ne.symm e], (h3 j hj).2⟩
theorem own_fitsI (x : Int32) : fits .int (.int x) = true := rfl
/-- newarray of N places -/
theorem newI (X : Stand p l e R s m args below meth c T locs cells slots) (hx : p.tables.exec = Jvm.exec) (hZ : Z.Warmed39 s.vm) {aty : ArrayType} (w : (Cond.arrayClass (newarray.typeOf aty)).before a0 Z = true) (eT : T.heap = h) {g : JFrame} (hg : g.method = m) (hd : decode c.code g.pc = .ok (.newarray aty, 2)) {z : Int32} {rest : List Value} (hs : g.stack = .int z :: rest)
    {N : Nat} (hz : z = Int32.ofNat N) {cap : Nat} (hcap : N ≤ cap) (hb : cap * 8 ≤ 536870912) (hc : cells + 1 ≤ R.cells) (hl : slots + cap ≤ R.slots) (hdv : defaultValue (newarray.typeOf aty) = .int 0) (hft : fits (newarray.typeOf aty) (.int 0) = true) :
    ∃ T' h', Stand p l e R s m args below meth c T' locs (cells + 1) (slots + cap) ∧ T'.heap = h' ∧ Ext h h' ∧ Ari Z h' h.size (newarray.typeOf aty) N (fun _ => 0) ∧ ∀ target, Steps p.tables e below (T'.setTop { g with pc := g.pc + 2, stack := .ref h.size :: rest }) target → Steps p.tables e below (T.setTop g) target := by
  have hN : N < 2 ^ 31 := by omega
  have ez : z.toInt = N := by rw [hz]; exact Int32.toInt_ofNat_of_lt hN
  have h0 : ¬ z < 0 := by rw [Int32.lt_iff_toInt_lt, ez]; have : (0 : Int32).toInt = 0 := rfl; omega
  have hn : z.toNatClampNeg = N := by have := nat_of h0; omega
  obtain ⟨T', h', cA, X', e', E, A, st⟩ := newP X hx hZ w eT hg hd hs h0 (cap := cap) (by omega) hb hc hl
  refine ⟨T', h', X', e', E, ⟨_, A, by rw [sz_new, hn], hN, fun j hj => ⟨?_, hft⟩⟩, st⟩
  simp [newA, hn, hj, hdv]
/-- iastore, bastore, castore at place i -/
theorem own_in {j : Int32} {i n : Nat} (hj : j = Int32.ofNat i) (hi : i < n) (hn : n < 2 ^ 31) : ¬ (j < 0 ∨ n ≤ j.toNatClampNeg) ∧ j.toNatClampNeg = i := by
  have ez : j.toInt = i := by rw [hj]; exact Int32.toInt_ofNat_of_lt (by omega)
  have h0 : ¬ j < 0 := by rw [Int32.lt_iff_toInt_lt, ez]; have : (0 : Int32).toInt = 0 := rfl; omega
  have hk : j.toNatClampNeg = i := by have := nat_of h0; omega
  exact ⟨by rintro (q | q); exact h0 q; omega, hk⟩
theorem stoI (X : Stand p l e R s m args below meth c T locs cells slots) (hx : p.tables.exec = Jvm.exec) (hZ : Z.Warmed39 s.vm) (eT : T.heap = h) (A : Ari Z h a .int n f) {j x : Int32} (i : Nat) (hj : j = Int32.ofNat i) (hi : i < n) {g : JFrame} (hg : g.method = m) {rest : List Value} (hs : g.stack = .int x :: .int j :: .ref a :: rest) (hd : decode c.code g.pc = .ok (.iastore, 1)) :
    ∃ T' h', Stand p l e R s m args below meth c T' (locs ++ [⟨a, i⟩]) cells slots ∧ T'.heap = h' ∧ Wr h h' a i (.int x) ∧ Ari Z h' a .int n (updI f i x) ∧ ∀ target, Steps p.tables e below (T'.setTop { g with pc := g.pc + 1, stack := rest }) target → Steps p.tables e below (T.setTop g) target := by
  have A' := A
  obtain ⟨cl, A1, h1, h2, h3⟩ := A
  obtain ⟨q1, q2⟩ := own_in hj hi h2
  obtain ⟨T', h', X', e', W, st⟩ := stI X hx hZ eT A1 (j := j) (by rw [h1]; exact q1) hg hs hd
  rw [q2] at X' W
  exact ⟨T', h', X', e', W, A'.store W hi rfl, st⟩
theorem stoB (X : Stand p l e R s m args below meth c T locs cells slots) (hx : p.tables.exec = Jvm.exec) (hZ : Z.Warmed39 s.vm) (eT : T.heap = h) (A : Ari Z h a .byte n f) {j x : Int32} (i : Nat) (hj : j = Int32.ofNat i) (hi : i < n) {g : JFrame} (hg : g.method = m) {rest : List Value} (hs : g.stack = .int x :: .int j :: .ref a :: rest) (hd : decode c.code g.pc = .ok (.bastore, 1)) :
    ∃ T' h', Stand p l e R s m args below meth c T' (locs ++ [⟨a, i⟩]) cells slots ∧ T'.heap = h' ∧ Wr h h' a i (.int x.toInt8.toInt32) ∧ Ari Z h' a .byte n (updI f i x.toInt8.toInt32) ∧ ∀ target, Steps p.tables e below (T'.setTop { g with pc := g.pc + 1, stack := rest }) target → Steps p.tables e below (T.setTop g) target := by
  have A' := A
  obtain ⟨cl, A1, h1, h2, h3⟩ := A
  obtain ⟨q1, q2⟩ := own_in hj hi h2
  obtain ⟨T', h', X', e', W, st⟩ := stB X hx hZ eT A1 (j := j) (by rw [h1]; exact q1) hg hs hd
  rw [q2] at X' W
  exact ⟨T', h', X', e', W, A'.store W hi (fits_nar_byte x), st⟩
theorem stoC (X : Stand p l e R s m args below meth c T locs cells slots) (hx : p.tables.exec = Jvm.exec) (hZ : Z.Warmed39 s.vm) (eT : T.heap = h) (A : Ari Z h a .char n f) {j x : Int32} (i : Nat) (hj : j = Int32.ofNat i) (hi : i < n) {g : JFrame} (hg : g.method = m) {rest : List Value} (hs : g.stack = .int x :: .int j :: .ref a :: rest) (hd : decode c.code g.pc = .ok (.castore, 1)) :
    ∃ T' h', Stand p l e R s m args below meth c T' (locs ++ [⟨a, i⟩]) cells slots ∧ T'.heap = h' ∧ Wr h h' a i (.int (nar .char x)) ∧ Ari Z h' a .char n (updI f i (nar .char x)) ∧ ∀ target, Steps p.tables e below (T'.setTop { g with pc := g.pc + 1, stack := rest }) target → Steps p.tables e below (T.setTop g) target := by
  have A' := A
  obtain ⟨cl, A1, h1, h2, h3⟩ := A
  obtain ⟨q1, q2⟩ := own_in hj hi h2
  obtain ⟨T', h', X', e', W, st⟩ := stC X hx hZ eT A1 (j := j) (by rw [h1]; exact q1) hg hs hd
  rw [q2] at X' W
  exact ⟨T', h', X', e', W, A'.store W hi (fits_nar_char x), st⟩
/-- iaload, baload at place i; arraylength -/
theorem rdI (X : Stand p l e R s m args below meth c T locs cells slots) (hx : p.tables.exec = Jvm.exec) (hZ : Z.Warmed39 s.vm) (eT : T.heap = h) (A : Ari Z h a .int n f) {j : Int32} (i : Nat) (hj : j = Int32.ofNat i) (hi : i < n) {g : JFrame} (hg : g.method = m) {rest : List Value} (hs : g.stack = .int j :: .ref a :: rest) (hd : decode c.code g.pc = .ok (.iaload, 1)) :
    ∀ target, Steps p.tables e below (T.setTop { g with pc := g.pc + 1, stack := .int (f i) :: rest }) target → Steps p.tables e below (T.setTop g) target := by
  obtain ⟨cl, A1, h1, h2, h3⟩ := A
  obtain ⟨q1, q2⟩ := own_in hj hi h2
  intro target k
  exact X.iaload hx (by rw [eT]; exact A1.1) (State.isArrayOf_alike hZ.alike A1.2.1) A1.2.2 (by rw [h1]; exact q1) (by rw [q2]; exact (h3 i hi).1) hg hs hd _ k
theorem rdB (X : Stand p l e R s m args below meth c T locs cells slots) (hx : p.tables.exec = Jvm.exec) (hZ : Z.Warmed39 s.vm) (eT : T.heap = h) (A : Ari Z h a .byte n f) {j : Int32} (i : Nat) (hj : j = Int32.ofNat i) (hi : i < n) {g : JFrame} (hg : g.method = m) {rest : List Value} (hs : g.stack = .int j :: .ref a :: rest) (hd : decode c.code g.pc = .ok (.baload, 1)) :
    ∀ target, Steps p.tables e below (T.setTop { g with pc := g.pc + 1, stack := .int (f i) :: rest }) target → Steps p.tables e below (T.setTop g) target := by
  obtain ⟨cl, A1, h1, h2, h3⟩ := A
  obtain ⟨q1, q2⟩ := own_in hj hi h2
  intro target k
  exact X.baloadBytes hx (by rw [eT]; exact A1.1) (State.isArrayOf_alike hZ.alike A1.2.1) A1.2.2 (by rw [h1]; exact q1) (by rw [q2]; exact (h3 i hi).1) hg hs hd _ k
theorem rdL (X : Stand p l e R s m args below meth c T locs cells slots) (hx : p.tables.exec = Jvm.exec) (hZ : Z.Warmed39 s.vm) (eT : T.heap = h) (A : Ari Z h a ty n f) {g : JFrame} (hg : g.method = m) {rest : List Value} (hs : g.stack = .ref a :: rest) (hd : decode c.code g.pc = .ok (.arraylength, 1)) :
    ∀ target, Steps p.tables e below (T.setTop { g with pc := g.pc + 1, stack := .int (Int32.ofNat n) :: rest }) target → Steps p.tables e below (T.setTop g) target := by
  obtain ⟨cl, A1, h1, h2, h3⟩ := A
  intro target k
  refine X.arraylength hx (by rw [eT]; exact A1.1) (State.isArrayOf_alike hZ.alike A1.2.1) hg hs hd _ ?_
  rw [h1]
  exact k
/-- calls by a contract that may make and write -/
theorem callX (X : Stand p l e R s m args below meth c T locs cells slots) (hx : p.tables.exec = Jvm.exec) (hZ : Z.Warmed39 s.vm) {own : String} {index : Nat} {y : MethodName} {bytes : ByteArray} {maxL : Nat} {ret : Option FieldType} (hown : s.vm.findClass own = some m.cls)
    (w1 : (Cond.methodLink own index y).before a0 Z = true) (w2 : (Cond.static y).before a0 Z = true) (w3 : (Cond.initialized y.cls).before a0 Z = true) (w4 : (Cond.code y bytes maxL ret).before a0 Z = true) (hy : y.cls ≠ "java/lang/invoke/MethodHandle" ∧ y.cls ≠ "java/lang/invoke/VarHandle")
    {rm : Room} {W : Nat} {argsL rest : List Value} {Q : Option Value → Heap → List Loc → Prop}
    (hM : MetFree l y (head1 [Cond.code y bytes maxL ret] rm) (fun a U => a = argsL.toArray ∧ Z.Warmed39 U.vm ∧ U.heap = h) (fun _ _ _ _ _ => True) (fun _ U o U' => ∃ v L, o = .returned v ∧ Q v U'.heap L ∧ FrameEnd U o U' L rm.cells rm.slots))
    (hf : rm.frames + 1 ≤ R.frames) (hl : W + (maxL + 11) + rm.locals ≤ R.locals) (hc : cells + rm.cells ≤ R.cells) (hs : slots + rm.slots ≤ R.slots) (eT : T.heap = h) {g : JFrame} (hg : g.method = m) (hsize : g.locals.size = c.maxLocals) (hlen : ∀ sig, parseMethodDescriptor y.desc = some sig → argsL.length = sig.parameters.length)
    (hstack : g.stack = argsL.reverse ++ rest) (hW : 2 * g.monitorRoom + (rest.map fun v => v.category).sum ≤ W) (hd : decode c.code g.pc = .ok (.invokestatic index, 3)) :
    ∃ v T' h' L, Stand p l e R s m args below meth c T' (locs ++ L) (cells + rm.cells) (slots + rm.slots) ∧ T'.heap = h' ∧ Q v h' L ∧ ∀ target, Steps p.tables e below (T'.setTop { g with pc := g.pc + 3, stack := v.toList ++ rest }) target → Steps p.tables e below (T.setTop g) target := by
  obtain ⟨v, _, ⟨T18, L18, k18, n18⟩, -, X18, ⟨Lc, hq, l18, y18, z18⟩, st⟩ := Jvm.LawKit.callS X hx hown (mvT hZ w1) (mvT hZ w2) (mvT hZ w3) (mvT hZ w4) hy (backOf (W := W) hM hZ w4 w3 hf hl) hg hsize hlen hstack hW hd (fun _ _ => ⟨rfl, eT, hc, hs⟩)
  dsimp only [Pt.U, Pt.locs, Pt.cells, Pt.slots] at X18 l18 y18 z18 st hq
  subst l18 y18 z18
  exact ⟨v, T18, _, Lc, X18, rfl, hq, st⟩
theorem callXV (X : Stand p l e R s m args below meth c T locs cells slots) (hx : p.tables.exec = Jvm.exec) (hZ : Z.Warmed39 s.vm) {own C : String} {index : Nat} {y z : MethodName} {bytes : ByteArray} {maxL : Nat} {ret : Option FieldType} (hown : s.vm.findClass own = some m.cls)
    (w1 : (Cond.methodLink own index y).before a0 Z = true) (w2 : (Cond.declares y).before a0 Z = true) (w3 : (Cond.selects C y z).before a0 Z = true) (w4 : (Cond.instanceMethod z).before a0 Z = true) (w5 : (Cond.code z bytes maxL ret).before a0 Z = true) (w6 : (Cond.initialized z.cls).before a0 Z = true) (hnf : NotFace s y) (hy : y.cls ≠ "java/lang/invoke/MethodHandle" ∧ y.cls ≠ "java/lang/invoke/VarHandle")
    {rm : Room} {W : Nat} {argsL rest : List Value} {Q : Option Value → Heap → List Loc → Prop}
    (hM : MetFree l z (head1 [Cond.code z bytes maxL ret] rm) (fun a U => a = (.ref b :: argsL).toArray ∧ Z.Warmed39 U.vm ∧ U.heap = h) (fun _ _ _ _ _ => True) (fun _ U o U' => ∃ v L, o = .returned v ∧ Q v U'.heap L ∧ FrameEnd U o U' L rm.cells rm.slots))
    (hf : rm.frames + 1 ≤ R.frames) (hl : W + (maxL + 11) + rm.locals ≤ R.locals) (hc : cells + rm.cells ≤ R.cells) (hs : slots + rm.slots ≤ R.slots) (eT : T.heap = h) (E : Exa Z h b C) {g : JFrame} (hg : g.method = m) (hsize : g.locals.size = c.maxLocals) (hlen : ∀ sig, parseMethodDescriptor y.desc = some sig → argsL.length = sig.parameters.length)
    (hstack : g.stack = argsL.reverse ++ .ref b :: rest) (hW : 2 * g.monitorRoom + (rest.map fun v => v.category).sum ≤ W) (hd : decode c.code g.pc = .ok (.invokevirtual index, 3)) :
    ∃ v T' h' L, Stand p l e R s m args below meth c T' (locs ++ L) (cells + rm.cells) (slots + rm.slots) ∧ T'.heap = h' ∧ Q v h' L ∧ ∀ target, Steps p.tables e below (T'.setTop { g with pc := g.pc + 3, stack := v.toList ++ rest }) target → Steps p.tables e below (T.setTop g) target := by
  obtain ⟨cq, kq, qa, qb, qc⟩ := isOf hZ eT E
  obtain ⟨v, _, ⟨T18, L18, k18, n18⟩, -, X18, ⟨Lc, hq, l18, y18, z18⟩, st⟩ := X.virtualBack hx hown (mvT hZ w1) (mvT hZ w2) hnf (mvT hZ w3) (mvT hZ w4) hy (backOf (W := W) hM hZ w5 w6 hf hl) qa qc hg hsize (Steps.refl _) hlen hstack hW hd (fun _ _ => ⟨rfl, eT, hc, hs⟩)
  dsimp only [Pt.U, Pt.locs, Pt.cells, Pt.slots] at X18 l18 y18 z18 st hq
  subst l18 y18 z18
  exact ⟨v, T18, _, Lc, X18, rfl, hq, fun _ k => st.trans k⟩
theorem callXP (X : Stand p l e R s m args below meth c T locs cells slots) (hx : p.tables.exec = Jvm.exec) (hZ : Z.Warmed39 s.vm) {own C : String} {index ki : Nat} {y : MethodName} {bytes : ByteArray} {maxL : Nat} {ret : Option FieldType} (hown : s.vm.findClass own = some m.cls)
    (w1 : (Cond.methodLink own index y).before a0 Z = true) (w4 : (Cond.instanceMethod y).before a0 Z = true) (wp : (Cond.privateMethod y).before a0 Z = true) (wi : (Cond.instantiable y.cls ki).before a0 Z = true) (w5 : (Cond.code y bytes maxL ret).before a0 Z = true) (w6 : (Cond.initialized y.cls).before a0 Z = true) (hy : y.cls ≠ "java/lang/invoke/MethodHandle" ∧ y.cls ≠ "java/lang/invoke/VarHandle")
    {rm : Room} {W : Nat} {argsL rest : List Value} {Q : Option Value → Heap → List Loc → Prop}
    (hM : MetFree l y (head1 [Cond.code y bytes maxL ret] rm) (fun a U => a = (.ref b :: argsL).toArray ∧ Z.Warmed39 U.vm ∧ U.heap = h) (fun _ _ _ _ _ => True) (fun _ U o U' => ∃ v L, o = .returned v ∧ Q v U'.heap L ∧ FrameEnd U o U' L rm.cells rm.slots))
    (hf : rm.frames + 1 ≤ R.frames) (hl : W + (maxL + 11) + rm.locals ≤ R.locals) (hc : cells + rm.cells ≤ R.cells) (hs : slots + rm.slots ≤ R.slots) (eT : T.heap = h) (E : Exa Z h b C) {g : JFrame} (hg : g.method = m) (hsize : g.locals.size = c.maxLocals) (hlen : ∀ sig, parseMethodDescriptor y.desc = some sig → argsL.length = sig.parameters.length)
    (hstack : g.stack = argsL.reverse ++ .ref b :: rest) (hW : 2 * g.monitorRoom + (rest.map fun v => v.category).sum ≤ W) (hd : decode c.code g.pc = .ok (.invokevirtual index, 3)) :
    ∃ v T' h' L, Stand p l e R s m args below meth c T' (locs ++ L) (cells + rm.cells) (slots + rm.slots) ∧ T'.heap = h' ∧ Q v h' L ∧ ∀ target, Steps p.tables e below (T'.setTop { g with pc := g.pc + 3, stack := v.toList ++ rest }) target → Steps p.tables e below (T.setTop g) target := by
  have hp : s.PrivateAt y := Cond.privateMethod_at (mvP hZ wp (args := #[]))
  obtain ⟨cc, kk, hcc, hkk, -, hni, -, -⟩ := Cond.instantiable_spec (args := #[]) (mvT hZ wi)
  have hsel : (Cond.selects y.cls y y).before args s = true := selects_self_of_private hcc hkk (Bool.or_eq_false_iff.mp hni).1 hp (mvT hZ w4) hy
  obtain ⟨cq, q3, q3'⟩ := E.cell
  obtain ⟨v, _, ⟨T18, L18, k18, n18⟩, -, X18, ⟨Lc, hq, l18, y18, z18⟩, st⟩ := X.privateBack hx hown (mvT hZ w1) (mvT hZ w4) hsel hp (mvT hZ w5) hy (backOf (W := W) hM hZ w5 w6 hf hl) hg hsize (Steps.refl _) (a := b) (by rw [eT]; exact q3) q3' hlen hstack hW hd (fun _ _ => ⟨rfl, eT, hc, hs⟩)
  dsimp only [Pt.U, Pt.locs, Pt.cells, Pt.slots] at X18 l18 y18 z18 st hq
  subst l18 y18 z18
  exact ⟨v, T18, _, Lc, X18, rfl, hq, fun _ k => st.trans k⟩
theorem callXI (X : Stand p l e R s m args below meth c T locs cells slots) (hx : p.tables.exec = Jvm.exec) (hZ : Z.Warmed39 s.vm) {own : String} {index : Nat} {y : MethodName} {bytes : ByteArray} {maxL : Nat} (hown : s.vm.findClass own = some m.cls) (hy1 : y.name = "<init>")
    (w1 : (Cond.methodLink own index y).before a0 Z = true) (w4 : (Cond.instanceMethod y).before a0 Z = true) (w5 : (Cond.code y bytes maxL none).before a0 Z = true) (w6 : (Cond.initialized y.cls).before a0 Z = true) (hy : y.cls ≠ "java/lang/invoke/MethodHandle" ∧ y.cls ≠ "java/lang/invoke/VarHandle")
    {rm : Room} {W : Nat} {argsL rest : List Value} {Q : Option Value → Heap → List Loc → Prop}
    (hM : MetFree l y (head1 [Cond.code y bytes maxL none] rm) (fun a U => a = (.ref b :: argsL).toArray ∧ Z.Warmed39 U.vm ∧ U.heap = h) (fun _ _ _ _ _ => True) (fun _ U o U' => ∃ v L, o = .returned v ∧ Q v U'.heap L ∧ FrameEnd U o U' L rm.cells rm.slots))
    (hf : rm.frames + 1 ≤ R.frames) (hl : W + (maxL + 11) + rm.locals ≤ R.locals) (hc : cells + rm.cells ≤ R.cells) (hs : slots + rm.slots ≤ R.slots) (eT : T.heap = h) {g : JFrame} (hg : g.method = m) (hsize : g.locals.size = c.maxLocals) (hlen : ∀ sig, parseMethodDescriptor y.desc = some sig → argsL.length = sig.parameters.length)
    (hstack : g.stack = argsL.reverse ++ .ref b :: rest) (hW : 2 * g.monitorRoom + (rest.map fun v => v.category).sum ≤ W) (hd : decode c.code g.pc = .ok (.invokespecial index, 3)) :
    ∃ v T' h' L, Stand p l e R s m args below meth c T' (locs ++ L) (cells + rm.cells) (slots + rm.slots) ∧ T'.heap = h' ∧ Q v h' L ∧ ∀ target, Steps p.tables e below (T'.setTop { g with pc := g.pc + 3, stack := v.toList ++ rest }) target → Steps p.tables e below (T.setTop g) target := by
  obtain ⟨v, _, ⟨T18, L18, k18, n18⟩, -, X18, ⟨Lc, hq, l18, y18, z18⟩, st⟩ := X.specialBack hx hy1 hown (mvT hZ w1) (mvT hZ w4) (mvT hZ w5) hy (backOf (W := W) hM hZ w5 w6 hf hl) hg hsize (Steps.refl _) hlen hstack hW hd (fun _ _ => ⟨rfl, eT, hc, hs⟩)
  dsimp only [Pt.U, Pt.locs, Pt.cells, Pt.slots] at X18 l18 y18 z18 st hq
  subst l18 y18 z18
  exact ⟨v, T18, _, Lc, X18, rfl, hq, fun _ k => st.trans k⟩
/-- arrays as lists, for System.arraycopy -/
theorem Ari.arv (F : Ari Z h a ty n f) : ∃ k, Arv Z h a k ty (Int32.ofNat n) ((List.range n).map fun j => Value.int (f j)) (.int 0) := by
  obtain ⟨cl, A, h1, h2, h3⟩ := F
  have ez : (Int32.ofNat n).toInt = n := Int32.toInt_ofNat_of_lt h2
  have h0 : ¬ Int32.ofNat n < 0 := by rw [Int32.lt_iff_toInt_lt, ez]; have : (0 : Int32).toInt = 0 := rfl; omega
  have hk : (Int32.ofNat n).toNatClampNeg = n := by have := nat_of h0; omega
  have q : ∀ i, i < n → ((List.range n).map fun j => Value.int (f j)).getD i (.int 0) = .int (f i) := fun i hi => by simp [List.getD_eq_getElem?_getD, hi]
  exact ⟨cl.cls, cl, A, rfl, by rw [hk]; exact h1, h0, fun i hi => by rw [q i (h1 ▸ hi)]; exact (h3 i (h1 ▸ hi)).1, fun i hi => by rw [q i (h1 ▸ hi)]; exact (h3 i (h1 ▸ hi)).2⟩
theorem Ari.of_arv {k : ClassId} {vs : List Value} {d : Value} {g : Nat → Int32} (F : Arv Z h a k ty (Int32.ofNat n) vs d) (hn : n < 2 ^ 31) (q : ∀ j, j < n → vs.getD j d = .int (g j)) : Ari Z h a ty n g := by
  obtain ⟨cl, A, -, h1, h0, H, G⟩ := F
  have ez : (Int32.ofNat n).toInt = n := Int32.toInt_ofNat_of_lt hn
  have hk : (Int32.ofNat n).toNatClampNeg = n := by have := nat_of h0; omega
  rw [hk] at h1
  exact ⟨cl, A, h1, hn, fun j hj => by rw [← q j hj]; exact ⟨H j (h1 ▸ hj), G j (h1 ▸ hj)⟩⟩
def blit (f g : Nat → Int32) (sp dp k : Nat) : Nat → Int32 := fun j => if dp ≤ j ∧ j < dp + k then f (sp + (j - dp)) else g j
theorem own_blit (f g : Nat → Int32) (n N sp dp k : Nat) (h1 : sp + k ≤ n) (h2 : dp + k ≤ N) (j : Nat) (hj : j < N) :
    (((List.range N).map fun j => Value.int (g j)).take dp ++ ((List.range k).map fun i => ((List.range n).map fun j => Value.int (f j)).getD (sp + i) (.int 0)) ++ ((List.range N).map fun j => Value.int (g j)).drop (dp + k)).getD j (.int 0) = .int (blit f g sp dp k j) := by
  simp only [blit, List.getD_eq_getElem?_getD]
  by_cases q1 : j < dp
  · have e : ¬ (dp ≤ j ∧ j < dp + k) := by omega
    rw [if_neg e, List.append_assoc, List.getElem?_append_left (by simp; omega)]
    simp [List.getElem?_take, q1, hj]
  · by_cases q2 : j < dp + k
    · rw [if_pos ⟨by omega, q2⟩, List.append_assoc, List.getElem?_append_right (by simp; omega), List.getElem?_append_left (by simp; omega)]
      have e1 : min dp N = dp := by omega
      have e2 : j - dp < k := by omega
      have e3 : sp + (j - dp) < n := by omega
      simp [e1, e2, e3]
    · have e : ¬ (dp ≤ j ∧ j < dp + k) := by omega
      rw [if_neg e, List.append_assoc, List.getElem?_append_right (by simp; omega), List.getElem?_append_right (by simp; omega)]
      have e1 : min dp N = dp := by omega
      have e2 : dp + k + (j - dp - k) = j := by omega
      simp [e1, e2, hj]
theorem copyI (X : Stand p l e R s m args below meth c T locs cells slots) (hx : p.tables.exec = Jvm.exec) (hZ : Z.Warmed39 s.vm) {own : String} {index : Nat} (hown : s.vm.findClass own = some m.cls)
    (w1 : (Cond.methodLink own index Jvm.Stand.acN).before a0 Z = true) (w2 : (Cond.native Jvm.Stand.acN).before a0 Z = true) (w3 : (Cond.static Jvm.Stand.acN).before a0 Z = true) (w4 : (Cond.initialized "java/lang/System").before a0 Z = true) (eT : T.heap = h)
    {N sp dp k : Nat} {g' : Nat → Int32} {zs zd zk : Int32} (A : Ari Z h a ty n f) (B : Ari Z h b ty N g') (hty : refKind ty = false) (es : zs = Int32.ofNat sp) (ed : zd = Int32.ofNat dp) (ek : zk = Int32.ofNat k) (h1 : sp + k ≤ n) (h2 : dp + k ≤ N) {n0 : Nat} (NF : Fr n0 locs) (ge : n0 ≤ b)
    {g : JFrame} (hg : g.method = m) (hsize : g.locals.size = c.maxLocals) {rest : List Value} (hs : g.stack = .int zk :: .int zd :: .ref b :: .int zs :: .ref a :: rest) (hd : decode c.code g.pc = .ok (.invokestatic index, 3))
    (hf : 1 ≤ R.frames) {W : Nat} (hW : 2 * g.monitorRoom + (rest.map fun v => v.category).sum ≤ W) (hlo : W + (nativeFrameWords "java/lang/System" "arraycopy" 5 + 11) ≤ R.locals) :
    ∃ T' h' L, Stand p l e R s m args below meth c T' L cells slots ∧ T'.heap = h' ∧ Fr n0 L ∧ Keep h h' [b] ∧ Ari Z h' b ty N (blit f g' sp dp k) ∧
      ∀ target, Steps p.tables e below (T'.setTop { g with pc := g.pc + 3, stack := rest }) target → Steps p.tables e below (T.setTop g) target := by
  have hn : n < 2 ^ 31 := by obtain ⟨_, _, _, q, _⟩ := A; exact q
  have hN : N < 2 ^ 31 := by obtain ⟨_, _, _, q, _⟩ := B; exact q
  have nz : ∀ {z : Int32} {i : Nat}, z = Int32.ofNat i → i < 2 ^ 31 → ¬ z < 0 ∧ z.toNatClampNeg = i := fun {z i} e hi => by
    have ez : z.toInt = i := by rw [e]; exact Int32.toInt_ofNat_of_lt hi
    have h0 : ¬ z < 0 := by rw [Int32.lt_iff_toInt_lt, ez]; have : (0 : Int32).toInt = 0 := rfl; omega
    exact ⟨h0, by have := nat_of h0; omega⟩
  obtain ⟨ka, VA⟩ := A.arv
  obtain ⟨kb, VB⟩ := B.arv
  obtain ⟨s1, s2⟩ := nz es (by omega)
  obtain ⟨d1, d2⟩ := nz ed (by omega)
  obtain ⟨k1, k2⟩ := nz ek (by omega)
  have n2 := (nz (rfl : Int32.ofNat n = Int32.ofNat n) hn).2
  have N2 := (nz (rfl : Int32.ofNat N = Int32.ofNat N) hN).2
  obtain ⟨T', h', L, X', e', F', K', V', st⟩ := cpA X hx hZ hown w1 w2 w3 w4 eT (sp := zs) (dp := zd) (nn := zk) VA VB (Or.inl ⟨rfl, hty⟩) s1 d1 k1 (by rw [s2, k2, n2]; exact h1) (by rw [d2, k2, N2]; exact h2) rfl (by rw [d2, k2]; simp; exact h2) NF ge hg hsize hs hd hf hW hlo
  refine ⟨T', h', L, X', e', F', K', Ari.of_arv V' hN fun j hj => ?_, st⟩
  rw [s2, d2, k2]
  exact own_blit f g' n N sp dp k h1 h2 j hj
/-- a class of objects that isn't a subclass of another one -/
theorem own_noinst {C S K : String} {ki : Nat} (w : (Cond.superclass C S).before a0 Z = true) (wr : (Cond.noSuperclass S).before a0 Z = true) (wi : (Cond.instantiable K ki).before a0 Z = true) (h1 : S ≠ K) (h2 : C ≠ K) : ∃ c t, Z.vm.findClass C = some c ∧ Z.vm.findClass K = some t ∧ Z.vm.assignable c t = false := by
  obtain ⟨t, kt, g1, g2, g3, g4, -⟩ := Cond.instantiable_spec wi
  have root : NS Z S K := by
    obtain ⟨c, k, q1, q2, q3, -, -⟩ := Cond.noSuperclass_spec wr
    have ne := ids_ne q1 g1 h1
    refine ⟨c, t, q1, g1, fun fuel => ?_⟩
    cases fuel with
    | zero => rfl
    | succ f => simp [Vm.isSubclassAux, ne, q2, q3]
  obtain ⟨c, t', h0, g0, n3⟩ := NS.step w root h2
  cases g1.symm.trans g0
  obtain ⟨p, k, kp, r1, r2, r3, r4, r5, -, r7⟩ := Cond.superclass_spec h0 w
  have ne := ids_ne h0 g1 h2
  refine ⟨c, t, h0, g1, ?_⟩
  show Z.vm.assignableAux (255 + 1) c t = false
  have gi := (Bool.or_eq_false_iff.mp g4).1
  simp [Vm.assignableAux, ne, r2, g2, r5, g3, gi, Vm.isSubclass, n3]
end OwnHeap
end Jvm.RoadKit
namespace Jvm.Pilot.@@N@@
open Jvm Jvm.ClassFile Sem Op Lib Jvm.Free Jvm.Stand Jvm.LawKit Jvm.RoadKit Bundle Jvm.Pilot.@@N@@.Jvm.D
theorem d6_0 : decode jdk_29_method_65_code 0 = .ok (.iload_n 0, 1) := by decide +kernel
theorem d6_1 : decode jdk_29_method_65_code 1 = .ok (.iload_n 1, 1) := by decide +kernel
theorem d6_2 : decode jdk_29_method_65_code 2 = .ok (.if_icmp .lt 7, 3) := by decide +kernel
theorem d6_5 : decode jdk_29_method_65_code 5 = .ok (.iload_n 0, 1) := by decide +kernel
theorem d6_6 : decode jdk_29_method_65_code 6 = .ok (.goto 4, 3) := by decide +kernel
theorem d6_9 : decode jdk_29_method_65_code 9 = .ok (.iload_n 1, 1) := by decide +kernel
theorem d6_10 : decode jdk_29_method_65_code 10 = .ok (.ireturn, 1) := by decide +kernel
theorem ef_6 (m : MethodId) (p1 : Int32) (p2 : Int32) : entryFrame m #[(.int p1), (.int p2)] 2 = mkF m 0 #[.val (.int p1), .val (.int p2)] [] := by first | (simp [entryFrame, mkF, argsToLocals, Value.category]; done) | rfl
def f6 (p1 : Int32) (p2 : Int32) : Int32 := (if (p1 < p2) then p2 else p1)
set_option maxRecDepth 65536 in
set_option maxHeartbeats 40000000 in
theorem rm6 (l : Launch) (Z : State) (a0 : Array Value) (hw : ∀ d ∈ tables_1, d.before a0 Z = true) (ws : List Jvm.Cond) (p1 : Int32) (p2 : Int32) (h0 : Heap)  :
    MetFree l (⟨"java/lang/Math", "max", "(II)I"⟩ : MethodName) (head1 (Jvm.Cond.code (⟨"java/lang/Math", "max", "(II)I"⟩ : MethodName) jdk_29_method_65_code 2 (some .int) :: ws) ({ frames := 0, cells := 0, slots := 0, locals := 0 } : Room)) (fun a U => a = #[(.int p1), (.int p2)] ∧ Z.Warmed39 U.vm ∧ U.heap = h0) (fun _ _ _ _ _ => True) (fun _ U o U' => ∃ v L, o = .returned v ∧ PI h0 (f6 p1 p2) v U'.heap L ∧ FrameEnd U o U' L ({ frames := 0, cells := 0, slots := 0, locals := 0 } : Room).cells ({ frames := 0, cells := 0, slots := 0, locals := 0 } : Room).slots) := by
  refine MetFree.of_bodySF (Jvm.Free.JP.mathPlain rfl (by decide +kernel)) hisR ?_
  intro p e s m args below meth c s₁ Bd hml0 hP hK
  obtain ⟨rfl, hZ, hh⟩ := hP
  have hx := Bd.exec
  have hby := Bd.bytes
  have hlk := Bd.notSynchronized
  have hml : c.maxLocals = 2 := hml0
  have hown : s.vm.findClass "java/lang/Math" = some m.cls := findClass_of_methodNamed Bd.named
  have X0 : Stand p l e ({ frames := 0, cells := 0, slots := 0, locals := 0 } : Room) s m #[(.int p1), (.int p2)] below meth c s₁ [] 0 0 := Stand.of_body Bd
  have e0 : s₁.heap = h0 := by rw [← hh, Bd.state]; rfl
  show Goes p e below s ({ frames := 0, cells := 0, slots := 0, locals := 0 } : Room).cells ({ frames := 0, cells := 0, slots := 0, locals := 0 } : Room).slots (PI h0 (f6 p1 p2)) s₁ (entryFrame m #[(.int p1), (.int p2)] 2)
  refine Goes.step (fun t k => castTop (ef_6 m p1 p2) k) ?_
  refine Goes.step (fun _ k => XS.iloadN X0.here hx rfl (hb hby d6_0) rfl k) ?_
  show Goes p e below s _ _ _ s₁ (mkF m 1 #[.val (.int p1), .val (.int p2)] [(.int p1)])
  refine Goes.step (fun _ k => XS.iloadN X0.here hx rfl (hb hby d6_1) rfl k) ?_
  show Goes p e below s _ _ _ s₁ (mkF m 2 #[.val (.int p1), .val (.int p2)] [(.int p2), (.int p1)])
  refine Goes.ite (Q := PI h0) (fun hc2 => ?_) (fun hc2 => ?_)
  · refine Goes.step (fun _ k => XS.icmpYes X0.here hx rfl (pc0 := 2) (pc' := 9) rfl (hb hby d6_2) rfl (tlt hc2).1 (by decide) (by decide) k) ?_
    show Goes p e below s _ _ _ s₁ (mkF m 9 #[.val (.int p1), .val (.int p2)] [])
    refine Goes.step (fun _ k => XS.iloadN X0.here hx rfl (hb hby d6_9) rfl k) ?_
    show Goes p e below s _ _ _ s₁ (mkF m 10 #[.val (.int p1), .val (.int p2)] [(.int p2)])
    exact Goes.outI X0 hx hlk Bd.returns (hb hby d6_10) ⟨rfl, rfl, e0⟩ (by decide) (by decide)
  · refine Goes.step (fun _ k => XS.icmpNo X0.here hx rfl (hb hby d6_2) rfl (flt hc2).1 k) ?_
    show Goes p e below s _ _ _ s₁ (mkF m 5 #[.val (.int p1), .val (.int p2)] [])
    refine Goes.step (fun _ k => XS.iloadN X0.here hx rfl (hb hby d6_5) rfl k) ?_
    show Goes p e below s _ _ _ s₁ (mkF m 6 #[.val (.int p1), .val (.int p2)] [(.int p1)])
    refine Goes.step (fun _ k => XS.goto X0.here hx rfl (pc0 := 6) (pc' := 10) rfl (hb hby d6_6) (by decide) (by decide) k) ?_
    show Goes p e below s _ _ _ s₁ (mkF m 10 #[.val (.int p1), .val (.int p2)] [(.int p1)])
    exact Goes.outI X0 hx hlk Bd.returns (hb hby d6_10) ⟨rfl, rfl, e0⟩ (by decide) (by decide)
theorem d8_0 : decode jdk_29_method_69_code 0 = .ok (.iload_n 0, 1) := by decide +kernel
theorem d8_1 : decode jdk_29_method_69_code 1 = .ok (.iload_n 1, 1) := by decide +kernel
theorem d8_2 : decode jdk_29_method_69_code 2 = .ok (.if_icmp .gt 7, 3) := by decide +kernel
theorem d8_5 : decode jdk_29_method_69_code 5 = .ok (.iload_n 0, 1) := by decide +kernel
theorem d8_6 : decode jdk_29_method_69_code 6 = .ok (.goto 4, 3) := by decide +kernel
theorem d8_9 : decode jdk_29_method_69_code 9 = .ok (.iload_n 1, 1) := by decide +kernel
theorem d8_10 : decode jdk_29_method_69_code 10 = .ok (.ireturn, 1) := by decide +kernel
theorem ef_8 (m : MethodId) (p1 : Int32) (p2 : Int32) : entryFrame m #[(.int p1), (.int p2)] 2 = mkF m 0 #[.val (.int p1), .val (.int p2)] [] := by first | (simp [entryFrame, mkF, argsToLocals, Value.category]; done) | rfl
def f8 (p1 : Int32) (p2 : Int32) : Int32 := (if (p2 < p1) then p2 else p1)
set_option maxRecDepth 65536 in
set_option maxHeartbeats 40000000 in
theorem rm8 (l : Launch) (Z : State) (a0 : Array Value) (hw : ∀ d ∈ tables_1, d.before a0 Z = true) (ws : List Jvm.Cond) (p1 : Int32) (p2 : Int32) (h0 : Heap)  :
    MetFree l (⟨"java/lang/Math", "min", "(II)I"⟩ : MethodName) (head1 (Jvm.Cond.code (⟨"java/lang/Math", "min", "(II)I"⟩ : MethodName) jdk_29_method_69_code 2 (some .int) :: ws) ({ frames := 0, cells := 0, slots := 0, locals := 0 } : Room)) (fun a U => a = #[(.int p1), (.int p2)] ∧ Z.Warmed39 U.vm ∧ U.heap = h0) (fun _ _ _ _ _ => True) (fun _ U o U' => ∃ v L, o = .returned v ∧ PI h0 (f8 p1 p2) v U'.heap L ∧ FrameEnd U o U' L ({ frames := 0, cells := 0, slots := 0, locals := 0 } : Room).cells ({ frames := 0, cells := 0, slots := 0, locals := 0 } : Room).slots) := by
  refine MetFree.of_bodySF (Jvm.Free.JP.mathPlain rfl (by decide +kernel)) hisR ?_
  intro p e s m args below meth c s₁ Bd hml0 hP hK
  obtain ⟨rfl, hZ, hh⟩ := hP
  have hx := Bd.exec
  have hby := Bd.bytes
  have hlk := Bd.notSynchronized
  have hml : c.maxLocals = 2 := hml0
  have hown : s.vm.findClass "java/lang/Math" = some m.cls := findClass_of_methodNamed Bd.named
  have X0 : Stand p l e ({ frames := 0, cells := 0, slots := 0, locals := 0 } : Room) s m #[(.int p1), (.int p2)] below meth c s₁ [] 0 0 := Stand.of_body Bd
  have e0 : s₁.heap = h0 := by rw [← hh, Bd.state]; rfl
  show Goes p e below s ({ frames := 0, cells := 0, slots := 0, locals := 0 } : Room).cells ({ frames := 0, cells := 0, slots := 0, locals := 0 } : Room).slots (PI h0 (f8 p1 p2)) s₁ (entryFrame m #[(.int p1), (.int p2)] 2)
  refine Goes.step (fun t k => castTop (ef_8 m p1 p2) k) ?_
  refine Goes.step (fun _ k => XS.iloadN X0.here hx rfl (hb hby d8_0) rfl k) ?_
  show Goes p e below s _ _ _ s₁ (mkF m 1 #[.val (.int p1), .val (.int p2)] [(.int p1)])
  refine Goes.step (fun _ k => XS.iloadN X0.here hx rfl (hb hby d8_1) rfl k) ?_
  show Goes p e below s _ _ _ s₁ (mkF m 2 #[.val (.int p1), .val (.int p2)] [(.int p2), (.int p1)])
  refine Goes.ite (Q := PI h0) (fun hc2 => ?_) (fun hc2 => ?_)
  · refine Goes.step (fun _ k => XS.icmpYes X0.here hx rfl (pc0 := 2) (pc' := 9) rfl (hb hby d8_2) rfl (tlt hc2).2.2.1 (by decide) (by decide) k) ?_
    show Goes p e below s _ _ _ s₁ (mkF m 9 #[.val (.int p1), .val (.int p2)] [])
    refine Goes.step (fun _ k => XS.iloadN X0.here hx rfl (hb hby d8_9) rfl k) ?_
    show Goes p e below s _ _ _ s₁ (mkF m 10 #[.val (.int p1), .val (.int p2)] [(.int p2)])
    exact Goes.outI X0 hx hlk Bd.returns (hb hby d8_10) ⟨rfl, rfl, e0⟩ (by decide) (by decide)
  · refine Goes.step (fun _ k => XS.icmpNo X0.here hx rfl (hb hby d8_2) rfl (flt hc2).2.2.1 k) ?_
    show Goes p e below s _ _ _ s₁ (mkF m 5 #[.val (.int p1), .val (.int p2)] [])
    refine Goes.step (fun _ k => XS.iloadN X0.here hx rfl (hb hby d8_5) rfl k) ?_
    show Goes p e below s _ _ _ s₁ (mkF m 6 #[.val (.int p1), .val (.int p2)] [(.int p1)])
    refine Goes.step (fun _ k => XS.goto X0.here hx rfl (pc0 := 6) (pc' := 10) rfl (hb hby d8_6) (by decide) (by decide) k) ?_
    show Goes p e below s _ _ _ s₁ (mkF m 10 #[.val (.int p1), .val (.int p2)] [(.int p1)])
    exact Goes.outI X0 hx hlk Bd.returns (hb hby d8_10) ⟨rfl, rfl, e0⟩ (by decide) (by decide)
theorem own_ne {N n : Nat} (h : N ≠ n) (h1 : N < 2 ^ 31) (h2 : n < 2 ^ 31) : ¬ Int32.ofNat N = Int32.ofNat n := by
  intro q
  have := congrArg Int32.toInt q
  rw [Int32.toInt_ofNat_of_lt h1, Int32.toInt_ofNat_of_lt h2] at this
  omega
theorem own_inj {N n : Nat} (h : Int32.ofNat N = Int32.ofNat n) (h1 : N < 2 ^ 31) (h2 : n < 2 ^ 31) : N = n := by
  have := congrArg Int32.toInt h
  rw [Int32.toInt_ofNat_of_lt h1, Int32.toInt_ofNat_of_lt h2] at this
  omega
theorem own_gt {a b : Nat} (h : Int32.ofNat a < Int32.ofNat b) (h1 : a < 2 ^ 31) (h2 : b < 2 ^ 31) : a < b := by
  rw [Int32.lt_iff_toInt_lt, Int32.toInt_ofNat_of_lt h1, Int32.toInt_ofNat_of_lt h2] at h
  omega
theorem own_le {a b : Nat} (h : ¬ Int32.ofNat a < Int32.ofNat b) (h1 : a < 2 ^ 31) (h2 : b < 2 ^ 31) : b ≤ a := by
  rw [Int32.lt_iff_toInt_lt, Int32.toInt_ofNat_of_lt h1, Int32.toInt_ofNat_of_lt h2] at h
  omega
theorem own_lt {a b : Nat} (h : a < b) (h2 : b < 2 ^ 31) : Int32.ofNat a < Int32.ofNat b := by
  rw [Int32.lt_iff_toInt_lt, Int32.toInt_ofNat_of_lt (by omega), Int32.toInt_ofNat_of_lt h2]
  omega
theorem own_nlt {a b : Nat} (h : b ≤ a) (h1 : a < 2 ^ 31) : ¬ Int32.ofNat a < Int32.ofNat b := by
  rw [Int32.lt_iff_toInt_lt, Int32.toInt_ofNat_of_lt h1, Int32.toInt_ofNat_of_lt (by omega)]
  omega
theorem own_max {a b : Nat} (h1 : a < 2 ^ 31) (h2 : b < 2 ^ 31) : f6 (Int32.ofNat a) (Int32.ofNat b) = Int32.ofNat (max a b) := by
  simp only [f6]
  by_cases q : a < b
  · rw [if_pos (own_lt q h2), Nat.max_eq_right (by omega)]
  · rw [if_neg (own_nlt (by omega) h1), Nat.max_eq_left (by omega)]
theorem own_min {a b : Nat} (h1 : a < 2 ^ 31) (h2 : b < 2 ^ 31) : f8 (Int32.ofNat a) (Int32.ofNat b) = Int32.ofNat (min a b) := by
  simp only [f8]
  by_cases q : b < a
  · rw [if_pos (own_lt q h1), Nat.min_eq_right (by omega)]
  · rw [if_neg (own_nlt (by omega) h2), Nat.min_eq_left (by omega)]
theorem own_cut (f : Nat → Int32) (n N : Nat) : ∀ j, j < N → blit f (fun _ => 0) 0 0 (min n N) j = (fun j => if j < n then f j else 0) j := by
  intro j hj
  simp only [blit]
  by_cases q : j < n
  · have : j < min n N := by omega
    simp [q, this]
  · have : ¬ j < min n N := by omega
    simp [q, this]
theorem own_BB (x : Int32) : x.toInt8.toInt32.toInt8.toInt32 = x.toInt8.toInt32 := by simp
theorem own_o2 {b1 b2 b : Addr} {h0 h1 : Heap} {ws : List Addr} (p : b1 = b ∨ h0.size ≤ b1) (q : b2 = b1 ∨ h1.size ≤ b2) (K : Keep h0 h1 ws) : b2 = b ∨ h0.size ≤ b2 := by
  rcases q with rfl | q
  · exact p
  · exact Or.inr (Nat.le_trans K.1 q)
theorem own_keepf (f : Nat → Int32) {n sz : Nat} (h : sz ≤ n) : ∀ j, j < sz → (fun j => if j < n then f j else 0) j = f j := by
  intro j hj
  have : j < n := by omega
  simp [this]
theorem own_u1 {F f : Nat → Int32} {sz : Nat} {v : Int32} (hf : ∀ j, j < sz → F j = f j) : ∀ j, j < sz → updI F sz v j = f j := by
  intro j hj
  have q : ¬ j = sz := by omega
  simp only [updI, q, if_false]
  exact hf j hj
theorem own_u2 {F f : Nat → Int32} {sz : Nat} {v w : Int32} (hf : ∀ j, j < sz → F j = f j) : ∀ j, j < sz → updI (updI F sz v) (sz + 1) w j = f j := by
  intro j hj
  have q1 : ¬ j = sz := by omega
  have q2 : ¬ j = sz + 1 := by omega
  simp only [updI, q1, q2, if_false]
  exact hf j hj
theorem own_put0 (F : Nat → Int32) (i : Nat) (x : Int32) : updI F i x.toInt8.toInt32.toInt8.toInt32 i = x.toInt8.toInt32 := by simp only [updI, if_true, own_BB]
theorem own_put1 (F : Nat → Int32) (i : Nat) (x y : Int32) : updI (updI F i x.toInt8.toInt32.toInt8.toInt32) (i + 1) y i = x.toInt8.toInt32 := by
  have q : ¬ i = i + 1 := by omega
  simp only [updI, q, if_true, if_false, own_BB]
theorem own_ari {Z : State} {h : Heap} {b : Addr} {ty : FieldType} {sz n : Nat} {f : Nat → Int32} (e : Int32.ofNat sz = Int32.ofNat n) (h1 : sz < 2 ^ 31) (h2 : n < 2 ^ 31) (A : Ari Z h b ty n f) : Ari Z h b ty sz f := by
  have := own_inj e h1 h2
  subst this
  exact A
theorem d7_0 : decode jdk_65_method_121_code 0 = .ok (.iload_n 1, 1) := by decide +kernel
theorem d7_1 : decode jdk_65_method_121_code 1 = .ok (.aload_n 0, 1) := by decide +kernel
theorem d7_2 : decode jdk_65_method_121_code 2 = .ok (.arraylength, 1) := by decide +kernel
theorem d7_3 : decode jdk_65_method_121_code 3 = .ok (.if_icmp .ne 11, 3) := by decide +kernel
theorem d7_14 : decode jdk_65_method_121_code 14 = .ok (.iload_n 1, 1) := by decide +kernel
theorem d7_15 : decode jdk_65_method_121_code 15 = .ok (.newarray .byte, 2) := by decide +kernel
theorem d7_17 : decode jdk_65_method_121_code 17 = .ok (.astore_n 2, 1) := by decide +kernel
theorem d7_18 : decode jdk_65_method_121_code 18 = .ok (.aload_n 0, 1) := by decide +kernel
theorem d7_19 : decode jdk_65_method_121_code 19 = .ok (.iconst 0, 1) := by decide +kernel
theorem d7_20 : decode jdk_65_method_121_code 20 = .ok (.aload_n 2, 1) := by decide +kernel
theorem d7_21 : decode jdk_65_method_121_code 21 = .ok (.iconst 0, 1) := by decide +kernel
theorem d7_22 : decode jdk_65_method_121_code 22 = .ok (.aload_n 0, 1) := by decide +kernel
theorem d7_23 : decode jdk_65_method_121_code 23 = .ok (.arraylength, 1) := by decide +kernel
theorem d7_24 : decode jdk_65_method_121_code 24 = .ok (.iload_n 1, 1) := by decide +kernel
theorem d7_25 : decode jdk_65_method_121_code 25 = .ok (.invokestatic 304, 3) := by decide +kernel
theorem d7_28 : decode jdk_65_method_121_code 28 = .ok (.invokestatic 150, 3) := by decide +kernel
theorem d7_31 : decode jdk_65_method_121_code 31 = .ok (.aload_n 2, 1) := by decide +kernel
theorem d7_32 : decode jdk_65_method_121_code 32 = .ok (.areturn, 1) := by decide +kernel
theorem pn_7 : plainName "java/util/Arrays" = true := by first | (simp [plainName, overriddenIn]; done) | decide +kernel
theorem pd_7_0 : parseMethodDescriptor "(II)I" = some ⟨[.int, .int], some .int⟩ := by decide +kernel
theorem ef_7 (m : MethodId) (a1 : Addr) : entryFrame m #[(.ref a1), (.int (Int32.ofNat N))] 3 = mkF m 0 #[.val (.ref a1), .val (.int (Int32.ofNat N)), .unset] [] := by first | (simp [entryFrame, mkF, argsToLocals, Value.category]; done) | rfl
def Q7 (Z : State) (a1 : Addr) (N : Nat) (n : Nat) (f : Nat → Int32) (h0 : Heap) (n0 : Nat) (v : Option Value) (h : Heap) (L : List Loc) : Prop := ∃ o, v = some (.ref o) ∧ Fr n0 L ∧ Keep h0 h [] ∧ h0.size ≤ o ∧ Ari Z h o .byte N (fun j => if j < n then f j else 0)
set_option maxRecDepth 65536 in
set_option maxHeartbeats 40000000 in
theorem rm7 (l : Launch) (Z : State) (a0 : Array Value) (hw : ∀ d ∈ tables_1, d.before a0 Z = true) (ws : List Jvm.Cond) (a1 : Addr) (N : Nat) (n : Nat) (f : Nat → Int32) (h0 : Heap) (n0 : Nat) (Z0 : n0 ≤ h0.size) (A_a1_0 : Ari Z h0 a1 .byte n f) (hne : N ≠ n) (hN : N ≤ 12) (hn : n ≤ 16) :
    MetFree l (⟨"java/util/Arrays", "copyOf", "([BI)[B"⟩ : MethodName) (head1 (Jvm.Cond.code (⟨"java/util/Arrays", "copyOf", "([BI)[B"⟩ : MethodName) jdk_65_method_121_code 3 (some (.array .byte)) :: ws) ({ frames := 1, cells := 1, slots := 12, locals := 40 } : Room)) (fun a U => a = #[(.ref a1), (.int (Int32.ofNat N))] ∧ Z.Warmed39 U.vm ∧ U.heap = h0) (fun _ _ _ _ _ => True) (fun _ U o U' => ∃ v L, o = .returned v ∧ Q7 Z a1 N n f h0 n0 v U'.heap L ∧ FrameEnd U o U' L ({ frames := 1, cells := 1, slots := 12, locals := 40 } : Room).cells ({ frames := 1, cells := 1, slots := 12, locals := 40 } : Room).slots) := by
  refine MetFree.of_bodySF (plainFor_of_name pn_7) hisR ?_
  intro p e s m args below meth c s₁ Bd hml0 hP hK
  obtain ⟨rfl, hZ, hh⟩ := hP
  have hx := Bd.exec
  have hby := Bd.bytes
  have hlk := Bd.notSynchronized
  have hml : c.maxLocals = 3 := hml0
  have hown : s.vm.findClass "java/util/Arrays" = some m.cls := findClass_of_methodNamed Bd.named
  have hnm := (name_of_methodNamed Bd.named Bd.method).1
  have X0 : Stand p l e ({ frames := 1, cells := 1, slots := 12, locals := 40 } : Room) s m #[(.ref a1), (.int (Int32.ofNat N))] below meth c s₁ [] 0 0 := Stand.of_body Bd
  have e0 : s₁.heap = h0 := by rw [← hh, Bd.state]; rfl
  have N0 := Fr.nil n0
  have K0 : Keep h0 h0 [] := Keep.refl h0 _
  show Goes p e below s ({ frames := 1, cells := 1, slots := 12, locals := 40 } : Room).cells ({ frames := 1, cells := 1, slots := 12, locals := 40 } : Room).slots (Q7 Z a1 N n f h0 n0) s₁ (entryFrame m #[(.ref a1), (.int (Int32.ofNat N))] 3)
  refine Goes.step (fun t k => castTop (ef_7 m a1) k) ?_
  refine Goes.step (fun _ k => XS.iloadN X0.here hx rfl (hb hby d7_0) rfl k) ?_
  show Goes p e below s _ _ _ s₁ (mkF m 1 #[.val (.ref a1), .val (.int (Int32.ofNat N)), .unset] [(.int (Int32.ofNat N))])
  refine Goes.step (fun _ k => XS.aloadN X0.here hx rfl (hb hby d7_1) rfl rfl k) ?_
  show Goes p e below s _ _ _ s₁ (mkF m 2 #[.val (.ref a1), .val (.int (Int32.ofNat N)), .unset] [(.ref a1), (.int (Int32.ofNat N))])
  refine Goes.step (fun _ k => rdL X0 hx hZ e0 A_a1_0 (g := (mkF m 2 #[.val (.ref a1), .val (.int (Int32.ofNat N)), .unset] [(.ref a1), (.int (Int32.ofNat N))])) rfl rfl (hb hby d7_2) _ k) ?_
  show Goes p e below s _ _ _ s₁ (mkF m 3 #[.val (.ref a1), .val (.int (Int32.ofNat N)), .unset] [(.int (Int32.ofNat n)), (.int (Int32.ofNat N))])
  refine Goes.step (fun _ k => XS.icmpYes X0.here hx rfl (pc0 := 3) (pc' := 14) rfl (hb hby d7_3) rfl (feq (own_ne hne (by omega) (by omega))).2 (by decide) (by decide) k) ?_
  show Goes p e below s _ _ _ s₁ (mkF m 14 #[.val (.ref a1), .val (.int (Int32.ofNat N)), .unset] [])
  refine Goes.step (fun _ k => XS.iloadN X0.here hx rfl (hb hby d7_14) rfl k) ?_
  show Goes p e below s _ _ _ s₁ (mkF m 15 #[.val (.ref a1), .val (.int (Int32.ofNat N)), .unset] [(.int (Int32.ofNat N))])
  obtain ⟨T1, h1, X1, e1, E1, A1, st1⟩ := newI X0 hx hZ (hw _ (List.mem_of_getElem? (i := 10) rfl)) e0 (g := (mkF m 15 #[.val (.ref a1), .val (.int (Int32.ofNat N)), .unset] [(.int (Int32.ofNat N))])) rfl (hb hby d7_15) rfl (N := N) rfl (cap := 12) hN (by decide) (by decide) (by decide) rfl (by decide)
  obtain ⟨b1, g_1⟩ : ∃ z, z = h0.size := ⟨_, rfl⟩
  rw [← g_1] at A1 st1
  refine Goes.step st1 ?_
  have ne_a1_b1 : a1 ≠ b1 := Nat.ne_of_lt (by rw [g_1]; exact A_a1_0.lt)
  have ge_b1 : n0 ≤ b1 := by rw [g_1]; exact Z0
  have sz_b1 : h0.size ≤ b1 := by rw [g_1]; exact K0.1
  have A_a1_1 := A_a1_0.ext E1
  have z_1 : n0 ≤ h1.size := Nat.le_trans Z0 E1.1
  have K_1 : Keep h0 h1 [] := K0.ext E1
  have A_b1_1 : Ari Z h1 b1 .byte (N) (fun _ => 0) := A1
  show Goes p e below s _ _ _ T1 (mkF m 17 #[.val (.ref a1), .val (.int (Int32.ofNat N)), .unset] [(.ref b1)])
  refine Goes.step (fun _ k => XS.astoreN X1.here hx rfl (hb hby d7_17) rfl rfl (l' := #[.val (.ref a1), .val (.int (Int32.ofNat N)), .val (.ref b1)]) rfl k) ?_
  show Goes p e below s _ _ _ T1 (mkF m 18 #[.val (.ref a1), .val (.int (Int32.ofNat N)), .val (.ref b1)] [])
  refine Goes.step (fun _ k => XS.aloadN X1.here hx rfl (hb hby d7_18) rfl rfl k) ?_
  show Goes p e below s _ _ _ T1 (mkF m 19 #[.val (.ref a1), .val (.int (Int32.ofNat N)), .val (.ref b1)] [(.ref a1)])
  refine Goes.step (fun _ k => XS.iconst X1.here hx rfl (hb hby d7_19) k) ?_
  show Goes p e below s _ _ _ T1 (mkF m 20 #[.val (.ref a1), .val (.int (Int32.ofNat N)), .val (.ref b1)] [(.int (0 : Int32)), (.ref a1)])
  refine Goes.step (fun _ k => XS.aloadN X1.here hx rfl (hb hby d7_20) rfl rfl k) ?_
  show Goes p e below s _ _ _ T1 (mkF m 21 #[.val (.ref a1), .val (.int (Int32.ofNat N)), .val (.ref b1)] [(.ref b1), (.int (0 : Int32)), (.ref a1)])
  refine Goes.step (fun _ k => XS.iconst X1.here hx rfl (hb hby d7_21) k) ?_
  show Goes p e below s _ _ _ T1 (mkF m 22 #[.val (.ref a1), .val (.int (Int32.ofNat N)), .val (.ref b1)] [(.int (0 : Int32)), (.ref b1), (.int (0 : Int32)), (.ref a1)])
  refine Goes.step (fun _ k => XS.aloadN X1.here hx rfl (hb hby d7_22) rfl rfl k) ?_
  show Goes p e below s _ _ _ T1 (mkF m 23 #[.val (.ref a1), .val (.int (Int32.ofNat N)), .val (.ref b1)] [(.ref a1), (.int (0 : Int32)), (.ref b1), (.int (0 : Int32)), (.ref a1)])
  refine Goes.step (fun _ k => rdL X1 hx hZ e1 A_a1_1 (g := (mkF m 23 #[.val (.ref a1), .val (.int (Int32.ofNat N)), .val (.ref b1)] [(.ref a1), (.int (0 : Int32)), (.ref b1), (.int (0 : Int32)), (.ref a1)])) rfl rfl (hb hby d7_23) _ k) ?_
  show Goes p e below s _ _ _ T1 (mkF m 24 #[.val (.ref a1), .val (.int (Int32.ofNat N)), .val (.ref b1)] [(.int (Int32.ofNat n)), (.int (0 : Int32)), (.ref b1), (.int (0 : Int32)), (.ref a1)])
  refine Goes.step (fun _ k => XS.iloadN X1.here hx rfl (hb hby d7_24) rfl k) ?_
  show Goes p e below s _ _ _ T1 (mkF m 25 #[.val (.ref a1), .val (.int (Int32.ofNat N)), .val (.ref b1)] [(.int (Int32.ofNat N)), (.int (Int32.ofNat n)), (.int (0 : Int32)), (.ref b1), (.int (0 : Int32)), (.ref a1)])
  obtain ⟨T2, X2, e2, st2⟩ := callPure X1 hx hZ (y := (⟨"java/lang/Math", "min", "(II)I"⟩ : MethodName)) hown (hw _ (List.mem_of_getElem? (i := 37) rfl)) (hw _ (List.mem_of_getElem? (i := 38) rfl)) (hw _ (List.mem_of_getElem? (i := 31) rfl)) (hw _ (List.mem_of_getElem? (i := 39) rfl)) (by decide) (W := 4) (argsL := [(.int (Int32.ofNat n)), (.int (Int32.ofNat N))]) (rest := [(.int (0 : Int32)), (.ref b1), (.int (0 : Int32)), (.ref a1)]) (r := (.int (f8 (Int32.ofNat n) (Int32.ofNat N)))) (fun _ _ _ q => q) (rm8 l Z a0 hw [] (Int32.ofNat n) (Int32.ofNat N) h1 ) (by decide) (by decide) (by decide) (by decide) e1 (g := (mkF m 25 #[.val (.ref a1), .val (.int (Int32.ofNat N)), .val (.ref b1)] [(.int (Int32.ofNat N)), (.int (Int32.ofNat n)), (.int (0 : Int32)), (.ref b1), (.int (0 : Int32)), (.ref a1)])) rfl (by rw [hml]; rfl) (lenOf pd_7_0 rfl) rfl (by show 2 * 0 + _ ≤ _; exact Nat.le_of_eq rfl) (hb hby d7_25)
  refine Goes.step st2 ?_
  show Goes p e below s _ _ _ T2 (mkF m 28 #[.val (.ref a1), .val (.int (Int32.ofNat N)), .val (.ref b1)] [(.int (f8 (Int32.ofNat n) (Int32.ofNat N))), (.int (0 : Int32)), (.ref b1), (.int (0 : Int32)), (.ref a1)])
  rw [own_min (by omega) (by omega)]
  obtain ⟨T3, h3, L3, X3, e3, N_3, KQ3, A3, st3⟩ := copyI X2 hx hZ hown (hw _ (List.mem_of_getElem? (i := 40) rfl)) (hw _ (List.mem_of_getElem? (i := 43) rfl)) (hw _ (List.mem_of_getElem? (i := 41) rfl)) (hw _ (List.mem_of_getElem? (i := 42) rfl)) e2 (sp := 0) (dp := 0) (k := min n N) A_a1_1 A_b1_1 rfl rfl rfl rfl (by omega) (by omega) N0 ge_b1 (g := (mkF m 28 #[.val (.ref a1), .val (.int (Int32.ofNat N)), .val (.ref b1)] [(.int (Int32.ofNat (min n N))), (.int (0 : Int32)), (.ref b1), (.int (0 : Int32)), (.ref a1)])) rfl (by rw [hml]; rfl) (rest := []) rfl (hb hby d7_28) (by decide) (W := 0) (by show 2 * 0 + _ ≤ _; exact Nat.le_of_eq rfl) (by decide)
  refine Goes.step st3 ?_
  have A_a1_3 := A_a1_1.keep KQ3 (ninS ne_a1_b1 nin0)
  have z_3 : n0 ≤ h3.size := Nat.le_trans z_1 KQ3.1
  have K_3 : Keep h0 h3 [] := Keep.trans K_1 KQ3 (allS (Or.inr sz_b1) all0)
  show Goes p e below s _ _ _ T3 (mkF m 31 #[.val (.ref a1), .val (.int (Int32.ofNat N)), .val (.ref b1)] [])
  refine Goes.step (fun _ k => XS.aloadN X3.here hx rfl (hb hby d7_31) rfl rfl k) ?_
  show Goes p e below s _ _ _ T3 (mkF m 32 #[.val (.ref a1), .val (.int (Int32.ofNat N)), .val (.ref b1)] [(.ref b1)])
  exact Goes.outR X3 hx hlk Bd.returns rfl rfl (hb hby d7_32) (by rw [e3]; exact ⟨_, rfl, N_3, K_3, sz_b1, A3.cast (own_cut f n N)⟩) (by decide) (by decide)
theorem d5_0 : decode prog_13_method_11_code 0 = .ok (.aload_n 0, 1) := by decide +kernel
theorem d5_1 : decode prog_13_method_11_code 1 = .ok (.getfield 19, 3) := by decide +kernel
theorem d5_4 : decode prog_13_method_11_code 4 = .ok (.iload_n 1, 1) := by decide +kernel
theorem d5_5 : decode prog_13_method_11_code 5 = .ok (.iadd, 1) := by decide +kernel
theorem d5_6 : decode prog_13_method_11_code 6 = .ok (.aload_n 0, 1) := by decide +kernel
theorem d5_7 : decode prog_13_method_11_code 7 = .ok (.getfield 9, 3) := by decide +kernel
theorem d5_10 : decode prog_13_method_11_code 10 = .ok (.arraylength, 1) := by decide +kernel
theorem d5_11 : decode prog_13_method_11_code 11 = .ok (.if_icmp .le 30, 3) := by decide +kernel
theorem d5_14 : decode prog_13_method_11_code 14 = .ok (.aload_n 0, 1) := by decide +kernel
theorem d5_15 : decode prog_13_method_11_code 15 = .ok (.aload_n 0, 1) := by decide +kernel
theorem d5_16 : decode prog_13_method_11_code 16 = .ok (.getfield 9, 3) := by decide +kernel
theorem d5_19 : decode prog_13_method_11_code 19 = .ok (.aload_n 0, 1) := by decide +kernel
theorem d5_20 : decode prog_13_method_11_code 20 = .ok (.getfield 9, 3) := by decide +kernel
theorem d5_23 : decode prog_13_method_11_code 23 = .ok (.arraylength, 1) := by decide +kernel
theorem d5_24 : decode prog_13_method_11_code 24 = .ok (.iconst 2, 1) := by decide +kernel
theorem d5_25 : decode prog_13_method_11_code 25 = .ok (.imul, 1) := by decide +kernel
theorem d5_26 : decode prog_13_method_11_code 26 = .ok (.aload_n 0, 1) := by decide +kernel
theorem d5_27 : decode prog_13_method_11_code 27 = .ok (.getfield 19, 3) := by decide +kernel
theorem d5_30 : decode prog_13_method_11_code 30 = .ok (.iload_n 1, 1) := by decide +kernel
theorem d5_31 : decode prog_13_method_11_code 31 = .ok (.iadd, 1) := by decide +kernel
theorem d5_32 : decode prog_13_method_11_code 32 = .ok (.invokestatic 62, 3) := by decide +kernel
theorem d5_35 : decode prog_13_method_11_code 35 = .ok (.invokestatic 56, 3) := by decide +kernel
theorem d5_38 : decode prog_13_method_11_code 38 = .ok (.putfield 9, 3) := by decide +kernel
theorem d5_41 : decode prog_13_method_11_code 41 = .ok (.return_, 1) := by decide +kernel
theorem pn_5 : plainName "com/example/proxysmith/proxysmith/ClassFileWriter$Bytes" = true := by first | (simp [plainName, overriddenIn]; done) | decide +kernel
theorem pd_5_0 : parseMethodDescriptor "(II)I" = some ⟨[.int, .int], some .int⟩ := by decide +kernel
theorem pd_5_1 : parseMethodDescriptor "([BI)[B" = some ⟨[(.array .byte), .int], some (.array .byte)⟩ := by decide +kernel
theorem ef_5 (m : MethodId) (a1 : Addr) : entryFrame m #[(.ref a1), (.int (Int32.ofNat mo))] 2 = mkF m 0 #[.val (.ref a1), .val (.int (Int32.ofNat mo))] [] := by first | (simp [entryFrame, mkF, argsToLocals, Value.category]; done) | rfl
def Q5 (Z : State) (a1 : Addr) (mo : Nat) (b : Addr) (n : Nat) (sz : Nat) (f : Nat → Int32) (h0 : Heap) (n0 : Nat) (v : Option Value) (h : Heap) (L : List Loc) : Prop := ∃ b' n' f', v = none ∧ Fr n0 L ∧ Keep h0 h [a1] ∧ Exa Z h a1 "com/example/proxysmith/proxysmith/ClassFileWriter$Bytes" ∧ Fld Z h a1 "com/example/proxysmith/proxysmith/ClassFileWriter$Bytes" "bytes" "[B" (.ref b') ∧ Fld Z h a1 "com/example/proxysmith/proxysmith/ClassFileWriter$Bytes" "size" "I" (.int (Int32.ofNat (sz))) ∧ Ari Z h b' .byte n' f' ∧ a1 ≠ b' ∧ n0 ≤ b' ∧ (b' = b ∨ h0.size ≤ b') ∧ sz ≤ n' ∧ n' ≤ 16 ∧ sz + mo ≤ n' ∧ ∀ j, j < sz → f' j = f j
set_option maxRecDepth 65536 in
set_option maxHeartbeats 40000000 in
theorem rm5 (l : Launch) (Z : State) (a0 : Array Value) (hw : ∀ d ∈ tables_1, d.before a0 Z = true) (ws : List Jvm.Cond) (a1 : Addr) (mo : Nat) (b : Addr) (n : Nat) (sz : Nat) (f : Nat → Int32) (h0 : Heap) (n0 : Nat) (Z0 : n0 ≤ h0.size) (E_a1_0 : Exa Z h0 a1 "com/example/proxysmith/proxysmith/ClassFileWriter$Bytes") (F_a1_bytes_0 : Fld Z h0 a1 "com/example/proxysmith/proxysmith/ClassFileWriter$Bytes" "bytes" "[B" (.ref b)) (F_a1_size_0 : Fld Z h0 a1 "com/example/proxysmith/proxysmith/ClassFileWriter$Bytes" "size" "I" (.int (Int32.ofNat sz))) (A_b_0 : Ari Z h0 b .byte n f) (ne_a1_b : a1 ≠ b) (ge_a1 : n0 ≤ a1) (ge_b : n0 ≤ b) (hsn : sz ≤ n) (hmx : n ≤ 16) (hmo : sz + mo ≤ 7) :
    MetFree l (⟨"com/example/proxysmith/proxysmith/ClassFileWriter$Bytes", "room", "(I)V"⟩ : MethodName) (head1 (Jvm.Cond.code (⟨"com/example/proxysmith/proxysmith/ClassFileWriter$Bytes", "room", "(I)V"⟩ : MethodName) prog_13_method_11_code 2 none :: ws) ({ frames := 2, cells := 1, slots := 12, locals := 55 } : Room)) (fun a U => a = #[(.ref a1), (.int (Int32.ofNat mo))] ∧ Z.Warmed39 U.vm ∧ U.heap = h0) (fun _ _ _ _ _ => True) (fun _ U o U' => ∃ v L, o = .returned v ∧ Q5 Z a1 mo b n sz f h0 n0 v U'.heap L ∧ FrameEnd U o U' L ({ frames := 2, cells := 1, slots := 12, locals := 55 } : Room).cells ({ frames := 2, cells := 1, slots := 12, locals := 55 } : Room).slots) := by
  refine MetFree.of_bodySF (plainFor_of_name pn_5) hisR ?_
  intro p e s m args below meth c s₁ Bd hml0 hP hK
  obtain ⟨rfl, hZ, hh⟩ := hP
  have hx := Bd.exec
  have hby := Bd.bytes
  have hlk := Bd.notSynchronized
  have hml : c.maxLocals = 2 := hml0
  have hown : s.vm.findClass "com/example/proxysmith/proxysmith/ClassFileWriter$Bytes" = some m.cls := findClass_of_methodNamed Bd.named
  have hnm := (name_of_methodNamed Bd.named Bd.method).1
  have X0 : Stand p l e ({ frames := 2, cells := 1, slots := 12, locals := 55 } : Room) s m #[(.ref a1), (.int (Int32.ofNat mo))] below meth c s₁ [] 0 0 := Stand.of_body Bd
  have e0 : s₁.heap = h0 := by rw [← hh, Bd.state]; rfl
  have N0 := Fr.nil n0
  have K0 : Keep h0 h0 [a1] := Keep.refl h0 _
  show Goes p e below s ({ frames := 2, cells := 1, slots := 12, locals := 55 } : Room).cells ({ frames := 2, cells := 1, slots := 12, locals := 55 } : Room).slots (Q5 Z a1 mo b n sz f h0 n0) s₁ (entryFrame m #[(.ref a1), (.int (Int32.ofNat mo))] 2)
  refine Goes.step (fun t k => castTop (ef_5 m a1) k) ?_
  refine Goes.step (fun _ k => XS.aloadN X0.here hx rfl (hb hby d5_0) rfl rfl k) ?_
  show Goes p e below s _ _ _ s₁ (mkF m 1 #[.val (.ref a1), .val (.int (Int32.ofNat mo))] [(.ref a1)])
  obtain ⟨T1, X1, e1, st1⟩ := getF X0 hx hZ hown (host := "") (Or.inl (hw _ (List.mem_of_getElem? (i := 27) rfl))) Via.refl e0 F_a1_size_0 (g := (mkF m 1 #[.val (.ref a1), .val (.int (Int32.ofNat mo))] [(.ref a1)])) rfl rfl (hb hby d5_1)
  refine Goes.step st1 ?_
  show Goes p e below s _ _ _ T1 (mkF m 4 #[.val (.ref a1), .val (.int (Int32.ofNat mo))] [(.int (Int32.ofNat sz))])
  refine Goes.step (fun _ k => XS.iloadN X1.here hx rfl (hb hby d5_4) rfl k) ?_
  show Goes p e below s _ _ _ T1 (mkF m 5 #[.val (.ref a1), .val (.int (Int32.ofNat mo))] [(.int (Int32.ofNat mo)), (.int (Int32.ofNat sz))])
  refine Goes.step (fun _ k => XS.iadd X1.here hx rfl (hb hby d5_5) rfl k) ?_
  show Goes p e below s _ _ _ T1 (mkF m 6 #[.val (.ref a1), .val (.int (Int32.ofNat mo))] [(.int ((Int32.ofNat sz) + (Int32.ofNat mo)))])
  rw [← Int32.ofNat_add sz mo]
  refine Goes.step (fun _ k => XS.aloadN X1.here hx rfl (hb hby d5_6) rfl rfl k) ?_
  show Goes p e below s _ _ _ T1 (mkF m 7 #[.val (.ref a1), .val (.int (Int32.ofNat mo))] [(.ref a1), (.int (Int32.ofNat (sz + mo)))])
  obtain ⟨T2, X2, e2, st2⟩ := getF X1 hx hZ hown (host := "") (Or.inl (hw _ (List.mem_of_getElem? (i := 11) rfl))) Via.refl e1 F_a1_bytes_0 (g := (mkF m 7 #[.val (.ref a1), .val (.int (Int32.ofNat mo))] [(.ref a1), (.int (Int32.ofNat (sz + mo)))])) rfl rfl (hb hby d5_7)
  refine Goes.step st2 ?_
  show Goes p e below s _ _ _ T2 (mkF m 10 #[.val (.ref a1), .val (.int (Int32.ofNat mo))] [(.ref b), (.int (Int32.ofNat (sz + mo)))])
  refine Goes.step (fun _ k => rdL X2 hx hZ e2 A_b_0 (g := (mkF m 10 #[.val (.ref a1), .val (.int (Int32.ofNat mo))] [(.ref b), (.int (Int32.ofNat (sz + mo)))])) rfl rfl (hb hby d5_10) _ k) ?_
  show Goes p e below s _ _ _ T2 (mkF m 11 #[.val (.ref a1), .val (.int (Int32.ofNat mo))] [(.int (Int32.ofNat n)), (.int (Int32.ofNat (sz + mo)))])
  by_cases hc11 : (Int32.ofNat n) < (Int32.ofNat (sz + mo))
  · refine Goes.step (fun _ k => XS.icmpNo X2.here hx rfl (hb hby d5_11) rfl (tlt hc11).2.2.2 k) ?_
    show Goes p e below s _ _ _ T2 (mkF m 14 #[.val (.ref a1), .val (.int (Int32.ofNat mo))] [])
    refine Goes.step (fun _ k => XS.aloadN X2.here hx rfl (hb hby d5_14) rfl rfl k) ?_
    show Goes p e below s _ _ _ T2 (mkF m 15 #[.val (.ref a1), .val (.int (Int32.ofNat mo))] [(.ref a1)])
    refine Goes.step (fun _ k => XS.aloadN X2.here hx rfl (hb hby d5_15) rfl rfl k) ?_
    show Goes p e below s _ _ _ T2 (mkF m 16 #[.val (.ref a1), .val (.int (Int32.ofNat mo))] [(.ref a1), (.ref a1)])
    obtain ⟨T3, X3, e3, st3⟩ := getF X2 hx hZ hown (host := "") (Or.inl (hw _ (List.mem_of_getElem? (i := 11) rfl))) Via.refl e2 F_a1_bytes_0 (g := (mkF m 16 #[.val (.ref a1), .val (.int (Int32.ofNat mo))] [(.ref a1), (.ref a1)])) rfl rfl (hb hby d5_16)
    refine Goes.step st3 ?_
    show Goes p e below s _ _ _ T3 (mkF m 19 #[.val (.ref a1), .val (.int (Int32.ofNat mo))] [(.ref b), (.ref a1)])
    refine Goes.step (fun _ k => XS.aloadN X3.here hx rfl (hb hby d5_19) rfl rfl k) ?_
    show Goes p e below s _ _ _ T3 (mkF m 20 #[.val (.ref a1), .val (.int (Int32.ofNat mo))] [(.ref a1), (.ref b), (.ref a1)])
    obtain ⟨T4, X4, e4, st4⟩ := getF X3 hx hZ hown (host := "") (Or.inl (hw _ (List.mem_of_getElem? (i := 11) rfl))) Via.refl e3 F_a1_bytes_0 (g := (mkF m 20 #[.val (.ref a1), .val (.int (Int32.ofNat mo))] [(.ref a1), (.ref b), (.ref a1)])) rfl rfl (hb hby d5_20)
    refine Goes.step st4 ?_
    show Goes p e below s _ _ _ T4 (mkF m 23 #[.val (.ref a1), .val (.int (Int32.ofNat mo))] [(.ref b), (.ref b), (.ref a1)])
    refine Goes.step (fun _ k => rdL X4 hx hZ e4 A_b_0 (g := (mkF m 23 #[.val (.ref a1), .val (.int (Int32.ofNat mo))] [(.ref b), (.ref b), (.ref a1)])) rfl rfl (hb hby d5_23) _ k) ?_
    show Goes p e below s _ _ _ T4 (mkF m 24 #[.val (.ref a1), .val (.int (Int32.ofNat mo))] [(.int (Int32.ofNat n)), (.ref b), (.ref a1)])
    refine Goes.step (fun _ k => XS.iconst X4.here hx rfl (hb hby d5_24) k) ?_
    show Goes p e below s _ _ _ T4 (mkF m 25 #[.val (.ref a1), .val (.int (Int32.ofNat mo))] [(.int (2 : Int32)), (.int (Int32.ofNat n)), (.ref b), (.ref a1)])
    refine Goes.step (fun _ k => XS.imul X4.here hx rfl (hb hby d5_25) rfl k) ?_
    show Goes p e below s _ _ _ T4 (mkF m 26 #[.val (.ref a1), .val (.int (Int32.ofNat mo))] [(.int ((Int32.ofNat n) * (2 : Int32))), (.ref b), (.ref a1)])
    rw [show (Int32.ofNat n) * (2 : Int32) = Int32.ofNat (n * 2) from (Int32.ofNat_mul n 2).symm]
    refine Goes.step (fun _ k => XS.aloadN X4.here hx rfl (hb hby d5_26) rfl rfl k) ?_
    show Goes p e below s _ _ _ T4 (mkF m 27 #[.val (.ref a1), .val (.int (Int32.ofNat mo))] [(.ref a1), (.int (Int32.ofNat (n * 2))), (.ref b), (.ref a1)])
    obtain ⟨T5, X5, e5, st5⟩ := getF X4 hx hZ hown (host := "") (Or.inl (hw _ (List.mem_of_getElem? (i := 27) rfl))) Via.refl e4 F_a1_size_0 (g := (mkF m 27 #[.val (.ref a1), .val (.int (Int32.ofNat mo))] [(.ref a1), (.int (Int32.ofNat (n * 2))), (.ref b), (.ref a1)])) rfl rfl (hb hby d5_27)
    refine Goes.step st5 ?_
    show Goes p e below s _ _ _ T5 (mkF m 30 #[.val (.ref a1), .val (.int (Int32.ofNat mo))] [(.int (Int32.ofNat sz)), (.int (Int32.ofNat (n * 2))), (.ref b), (.ref a1)])
    refine Goes.step (fun _ k => XS.iloadN X5.here hx rfl (hb hby d5_30) rfl k) ?_
    show Goes p e below s _ _ _ T5 (mkF m 31 #[.val (.ref a1), .val (.int (Int32.ofNat mo))] [(.int (Int32.ofNat mo)), (.int (Int32.ofNat sz)), (.int (Int32.ofNat (n * 2))), (.ref b), (.ref a1)])
    refine Goes.step (fun _ k => XS.iadd X5.here hx rfl (hb hby d5_31) rfl k) ?_
    show Goes p e below s _ _ _ T5 (mkF m 32 #[.val (.ref a1), .val (.int (Int32.ofNat mo))] [(.int ((Int32.ofNat sz) + (Int32.ofNat mo))), (.int (Int32.ofNat (n * 2))), (.ref b), (.ref a1)])
    rw [← Int32.ofNat_add sz mo]
    obtain ⟨T6, X6, e6, st6⟩ := callPure X5 hx hZ (y := (⟨"java/lang/Math", "max", "(II)I"⟩ : MethodName)) hown (hw _ (List.mem_of_getElem? (i := 29) rfl)) (hw _ (List.mem_of_getElem? (i := 30) rfl)) (hw _ (List.mem_of_getElem? (i := 31) rfl)) (hw _ (List.mem_of_getElem? (i := 32) rfl)) (by decide) (W := 2) (argsL := [(.int (Int32.ofNat (n * 2))), (.int (Int32.ofNat (sz + mo)))]) (rest := [(.ref b), (.ref a1)]) (r := (.int (f6 (Int32.ofNat (n * 2)) (Int32.ofNat (sz + mo))))) (fun _ _ _ q => q) (rm6 l Z a0 hw [] (Int32.ofNat (n * 2)) (Int32.ofNat (sz + mo)) h0 ) (by decide) (by decide) (by decide) (by decide) e5 (g := (mkF m 32 #[.val (.ref a1), .val (.int (Int32.ofNat mo))] [(.int (Int32.ofNat (sz + mo))), (.int (Int32.ofNat (n * 2))), (.ref b), (.ref a1)])) rfl (by rw [hml]; rfl) (lenOf pd_5_0 rfl) rfl (by show 2 * 0 + _ ≤ _; exact Nat.le_of_eq rfl) (hb hby d5_32)
    refine Goes.step st6 ?_
    show Goes p e below s _ _ _ T6 (mkF m 35 #[.val (.ref a1), .val (.int (Int32.ofNat mo))] [(.int (f6 (Int32.ofNat (n * 2)) (Int32.ofNat (sz + mo)))), (.ref b), (.ref a1)])
    rw [own_max (a := n * 2) (b := sz + mo) (by omega) (by omega)]
    have hgt := own_gt hc11 (by omega) (by omega)
    obtain ⟨v7, T7, h7, L7, X7, e7, Q7, st7⟩ := callX X6 hx hZ (y := (⟨"java/util/Arrays", "copyOf", "([BI)[B"⟩ : MethodName)) hown (hw _ (List.mem_of_getElem? (i := 33) rfl)) (hw _ (List.mem_of_getElem? (i := 34) rfl)) (hw _ (List.mem_of_getElem? (i := 35) rfl)) (hw _ (List.mem_of_getElem? (i := 36) rfl)) (by decide) (W := 1) (argsL := [(.ref b), (.int (Int32.ofNat (max (n * 2) (sz + mo))))]) (rest := [(.ref a1)]) (rm7 l Z a0 hw [] b (max (n * 2) (sz + mo)) n f h0 n0 Z0 A_b_0 (by omega) (by omega) hmx) (by decide) (by decide) (by decide) (by decide) e6 (g := (mkF m 35 #[.val (.ref a1), .val (.int (Int32.ofNat mo))] [(.int (Int32.ofNat (max (n * 2) (sz + mo)))), (.ref b), (.ref a1)])) rfl (by rw [hml]; rfl) (lenOf pd_5_1 rfl) rfl (by show 2 * 0 + _ ≤ _; exact Nat.le_of_eq rfl) (hb hby d5_35)
    obtain ⟨o7, rfl, NQ7, KQ7, so7, Ao7⟩ := Q7
    refine Goes.step st7 ?_
    have E_a1_7 := E_a1_0.keep KQ7
    have F_a1_bytes_7 := F_a1_bytes_0.keep KQ7 nin0
    have F_a1_size_7 := F_a1_size_0.keep KQ7 nin0
    have A_b_7 := A_b_0.keep KQ7 nin0
    have z_7 : n0 ≤ h7.size := Nat.le_trans Z0 KQ7.1
    have K_7 : Keep h0 h7 [a1] := Keep.trans K0 KQ7 all0
    have N_7 := Fr.app N0 NQ7
    have ne_a1_o7 : a1 ≠ o7 := Nat.ne_of_lt (Nat.lt_of_lt_of_le E_a1_0.lt so7)
    have ne_b_o7 : b ≠ o7 := Nat.ne_of_lt (Nat.lt_of_lt_of_le A_b_0.lt so7)
    have ge_o7 : n0 ≤ o7 := Nat.le_trans Z0 so7
    show Goes p e below s _ _ _ T7 (mkF m 38 #[.val (.ref a1), .val (.int (Int32.ofNat mo))] [(.ref o7), (.ref a1)])
    obtain ⟨T8, h8, X8, e8, W8, st8⟩ := putF X7 hx hZ hown (host := "") (Or.inl (hw _ (List.mem_of_getElem? (i := 11) rfl))) Via.refl e7 F_a1_bytes_7 E_a1_7 (Or.inl (hw _ (List.mem_of_getElem? (i := 12) rfl))) (hw _ (List.mem_of_getElem? (i := 2) rfl)) (ty := (.array .byte)) (by decide) rfl rfl (g := (mkF m 38 #[.val (.ref a1), .val (.int (Int32.ofNat mo))] [(.ref o7), (.ref a1)])) rfl rfl (hb hby d5_38)
    refine Goes.step st8 ?_
    have E_a1_8 := E_a1_7.wr W8
    have F_a1_size_8 := F_a1_size_7.other W8 (Or.inr (slot_ne (Or.inl (hw _ (List.mem_of_getElem? (i := 28) rfl))) (Or.inl (hw _ (List.mem_of_getElem? (i := 12) rfl))) (by decide) (t := .int) (t' := (.array .byte)) (by decide) (by decide)))
    have A_b_8 := A_b_7.other W8 (Ne.symm ne_a1_b)
    have Ao7_8 := Ao7.other W8 (Ne.symm ne_a1_o7)
    have z_8 : n0 ≤ h8.size := by rw [W8.size]; exact z_7
    have K_8 : Keep h0 h8 [a1] := K_7.wr W8 (Or.inl (List.mem_of_getElem? (i := 0) rfl))
    have N_8 := Fr.snoc X8 N_7 ge_a1
    have F_a1_bytes_8 : Fld Z h8 a1 "com/example/proxysmith/proxysmith/ClassFileWriter$Bytes" "bytes" "[B" (.ref o7) := F_a1_bytes_7.same W8
    show Goes p e below s _ _ _ T8 (mkF m 41 #[.val (.ref a1), .val (.int (Int32.ofNat mo))] [])
    exact Goes.outV X8 hx hlk Bd.returns (hb hby d5_41) (by rw [e8]; exact ⟨o7, max (n * 2) (sz + mo), _, rfl, N_8, K_8, E_a1_8, F_a1_bytes_8, F_a1_size_8, Ao7_8, ne_a1_o7, ge_o7, Or.inr so7, by omega, by omega, by omega, own_keepf f hsn⟩) (by decide) (by decide)
  · refine Goes.step (fun _ k => XS.icmpYes X2.here hx rfl (pc0 := 11) (pc' := 41) rfl (hb hby d5_11) rfl (flt hc11).2.2.2 (by decide) (by decide) k) ?_
    show Goes p e below s _ _ _ T2 (mkF m 41 #[.val (.ref a1), .val (.int (Int32.ofNat mo))] [])
    exact Goes.outV X2 hx hlk Bd.returns (hb hby d5_41) (by rw [e2]; exact ⟨b, n, f, rfl, N0, K0, E_a1_0, F_a1_bytes_0, F_a1_size_0, A_b_0, ne_a1_b, ge_b, Or.inl rfl, hsn, hmx, own_le hc11 (by omega) (by omega), fun _ _ => rfl⟩) (by decide) (by decide)
theorem d4_0 : decode prog_13_method_3_code 0 = .ok (.aload_n 0, 1) := by decide +kernel
theorem d4_1 : decode prog_13_method_3_code 1 = .ok (.iconst 2, 1) := by decide +kernel
theorem d4_2 : decode prog_13_method_3_code 2 = .ok (.invokevirtual 15, 3) := by decide +kernel
theorem d4_5 : decode prog_13_method_3_code 5 = .ok (.aload_n 0, 1) := by decide +kernel
theorem d4_6 : decode prog_13_method_3_code 6 = .ok (.getfield 9, 3) := by decide +kernel
theorem d4_9 : decode prog_13_method_3_code 9 = .ok (.aload_n 0, 1) := by decide +kernel
theorem d4_10 : decode prog_13_method_3_code 10 = .ok (.dup, 1) := by decide +kernel
theorem d4_11 : decode prog_13_method_3_code 11 = .ok (.getfield 19, 3) := by decide +kernel
theorem d4_14 : decode prog_13_method_3_code 14 = .ok (.dup_x1, 1) := by decide +kernel
theorem d4_15 : decode prog_13_method_3_code 15 = .ok (.iconst 1, 1) := by decide +kernel
theorem d4_16 : decode prog_13_method_3_code 16 = .ok (.iadd, 1) := by decide +kernel
theorem d4_17 : decode prog_13_method_3_code 17 = .ok (.putfield 19, 3) := by decide +kernel
theorem d4_20 : decode prog_13_method_3_code 20 = .ok (.iload_n 1, 1) := by decide +kernel
theorem d4_21 : decode prog_13_method_3_code 21 = .ok (.bipush 8, 2) := by decide +kernel
theorem d4_23 : decode prog_13_method_3_code 23 = .ok (.iushr, 1) := by decide +kernel
theorem d4_24 : decode prog_13_method_3_code 24 = .ok (.i2b, 1) := by decide +kernel
theorem d4_25 : decode prog_13_method_3_code 25 = .ok (.bastore, 1) := by decide +kernel
theorem d4_26 : decode prog_13_method_3_code 26 = .ok (.aload_n 0, 1) := by decide +kernel
theorem d4_27 : decode prog_13_method_3_code 27 = .ok (.getfield 9, 3) := by decide +kernel
theorem d4_30 : decode prog_13_method_3_code 30 = .ok (.aload_n 0, 1) := by decide +kernel
theorem d4_31 : decode prog_13_method_3_code 31 = .ok (.dup, 1) := by decide +kernel
theorem d4_32 : decode prog_13_method_3_code 32 = .ok (.getfield 19, 3) := by decide +kernel
theorem d4_35 : decode prog_13_method_3_code 35 = .ok (.dup_x1, 1) := by decide +kernel
theorem d4_36 : decode prog_13_method_3_code 36 = .ok (.iconst 1, 1) := by decide +kernel
theorem d4_37 : decode prog_13_method_3_code 37 = .ok (.iadd, 1) := by decide +kernel
theorem d4_38 : decode prog_13_method_3_code 38 = .ok (.putfield 19, 3) := by decide +kernel
theorem d4_41 : decode prog_13_method_3_code 41 = .ok (.iload_n 1, 1) := by decide +kernel
theorem d4_42 : decode prog_13_method_3_code 42 = .ok (.i2b, 1) := by decide +kernel
theorem d4_43 : decode prog_13_method_3_code 43 = .ok (.bastore, 1) := by decide +kernel
theorem d4_44 : decode prog_13_method_3_code 44 = .ok (.return_, 1) := by decide +kernel
theorem pn_4 : plainName "com/example/proxysmith/proxysmith/ClassFileWriter$Bytes" = true := by first | (simp [plainName, overriddenIn]; done) | decide +kernel
theorem pd_4_0 : parseMethodDescriptor "(I)V" = some ⟨[.int], none⟩ := by decide +kernel
theorem ef_4 (m : MethodId) (a1 : Addr) (p2 : Int32) : entryFrame m #[(.ref a1), (.int p2)] 2 = mkF m 0 #[.val (.ref a1), .val (.int p2)] [] := by first | (simp [entryFrame, mkF, argsToLocals, Value.category]; done) | rfl
def Q4 (Z : State) (a1 : Addr) (p2 : Int32) (b : Addr) (n : Nat) (sz : Nat) (f : Nat → Int32) (h0 : Heap) (n0 : Nat) (v : Option Value) (h : Heap) (L : List Loc) : Prop := ∃ b' n' f', v = none ∧ Fr n0 L ∧ Keep h0 h [a1, b] ∧ Exa Z h a1 "com/example/proxysmith/proxysmith/ClassFileWriter$Bytes" ∧ Fld Z h a1 "com/example/proxysmith/proxysmith/ClassFileWriter$Bytes" "bytes" "[B" (.ref b') ∧ Fld Z h a1 "com/example/proxysmith/proxysmith/ClassFileWriter$Bytes" "size" "I" (.int (Int32.ofNat (sz + 2))) ∧ Ari Z h b' .byte n' f' ∧ a1 ≠ b' ∧ n0 ≤ b' ∧ (b' = b ∨ h0.size ≤ b') ∧ sz + 2 ≤ n' ∧ n' ≤ 16 ∧ (∀ j, j < sz → f' j = f j) ∧ f' sz = ((p2.toUInt32 >>> ((8 : Int32) &&& 31).toUInt32).toInt32).toInt8.toInt32 ∧ f' (sz + 1) = p2.toInt8.toInt32
set_option maxRecDepth 65536 in
set_option maxHeartbeats 40000000 in
theorem rm4 (l : Launch) (Z : State) (a0 : Array Value) (hw : ∀ d ∈ tables_1, d.before a0 Z = true) (ws : List Jvm.Cond) (a1 : Addr) (p2 : Int32) (b : Addr) (n : Nat) (sz : Nat) (f : Nat → Int32) (h0 : Heap) (n0 : Nat) (Z0 : n0 ≤ h0.size) (E_a1_0 : Exa Z h0 a1 "com/example/proxysmith/proxysmith/ClassFileWriter$Bytes") (F_a1_bytes_0 : Fld Z h0 a1 "com/example/proxysmith/proxysmith/ClassFileWriter$Bytes" "bytes" "[B" (.ref b)) (F_a1_size_0 : Fld Z h0 a1 "com/example/proxysmith/proxysmith/ClassFileWriter$Bytes" "size" "I" (.int (Int32.ofNat sz))) (A_b_0 : Ari Z h0 b .byte n f) (ne_a1_b : a1 ≠ b) (ge_a1 : n0 ≤ a1) (ge_b : n0 ≤ b) (hsn : sz ≤ n) (hmx : n ≤ 16) (hmo : sz + 2 ≤ 7) :
    MetFree l (⟨"com/example/proxysmith/proxysmith/ClassFileWriter$Bytes", "u2", "(I)V"⟩ : MethodName) (head1 (Jvm.Cond.code (⟨"com/example/proxysmith/proxysmith/ClassFileWriter$Bytes", "u2", "(I)V"⟩ : MethodName) prog_13_method_3_code 2 none :: ws) ({ frames := 3, cells := 1, slots := 12, locals := 68 } : Room)) (fun a U => a = #[(.ref a1), (.int p2)] ∧ Z.Warmed39 U.vm ∧ U.heap = h0) (fun _ _ _ _ _ => True) (fun _ U o U' => ∃ v L, o = .returned v ∧ Q4 Z a1 p2 b n sz f h0 n0 v U'.heap L ∧ FrameEnd U o U' L ({ frames := 3, cells := 1, slots := 12, locals := 68 } : Room).cells ({ frames := 3, cells := 1, slots := 12, locals := 68 } : Room).slots) := by
  refine MetFree.of_bodySF (plainFor_of_name pn_4) hisR ?_
  intro p e s m args below meth c s₁ Bd hml0 hP hK
  obtain ⟨rfl, hZ, hh⟩ := hP
  have hx := Bd.exec
  have hby := Bd.bytes
  have hlk := Bd.notSynchronized
  have hml : c.maxLocals = 2 := hml0
  have hown : s.vm.findClass "com/example/proxysmith/proxysmith/ClassFileWriter$Bytes" = some m.cls := findClass_of_methodNamed Bd.named
  have hnm := (name_of_methodNamed Bd.named Bd.method).1
  have X0 : Stand p l e ({ frames := 3, cells := 1, slots := 12, locals := 68 } : Room) s m #[(.ref a1), (.int p2)] below meth c s₁ [] 0 0 := Stand.of_body Bd
  have e0 : s₁.heap = h0 := by rw [← hh, Bd.state]; rfl
  have N0 := Fr.nil n0
  have K0 : Keep h0 h0 [a1, b] := Keep.refl h0 _
  show Goes p e below s ({ frames := 3, cells := 1, slots := 12, locals := 68 } : Room).cells ({ frames := 3, cells := 1, slots := 12, locals := 68 } : Room).slots (Q4 Z a1 p2 b n sz f h0 n0) s₁ (entryFrame m #[(.ref a1), (.int p2)] 2)
  refine Goes.step (fun t k => castTop (ef_4 m a1 p2) k) ?_
  refine Goes.step (fun _ k => XS.aloadN X0.here hx rfl (hb hby d4_0) rfl rfl k) ?_
  show Goes p e below s _ _ _ s₁ (mkF m 1 #[.val (.ref a1), .val (.int p2)] [(.ref a1)])
  refine Goes.step (fun _ k => XS.iconst X0.here hx rfl (hb hby d4_1) k) ?_
  show Goes p e below s _ _ _ s₁ (mkF m 2 #[.val (.ref a1), .val (.int p2)] [(.int (2 : Int32)), (.ref a1)])
  obtain ⟨v1, T1, h1, L1, X1, e1, Q1, st1⟩ := callXP X0 hx hZ (b := a1) (y := (⟨"com/example/proxysmith/proxysmith/ClassFileWriter$Bytes", "room", "(I)V"⟩ : MethodName)) hown (hw _ (List.mem_of_getElem? (i := 23) rfl)) (hw _ (List.mem_of_getElem? (i := 24) rfl)) (hw _ (List.mem_of_getElem? (i := 25) rfl)) (hw _ (List.mem_of_getElem? (i := 2) rfl)) (hw _ (List.mem_of_getElem? (i := 26) rfl)) (hw _ (List.mem_of_getElem? (i := 3) rfl)) (by decide) (W := 0) (argsL := [(.int (2 : Int32))]) (rest := []) (rm5 l Z a0 hw [] a1 2 b n sz f h0 n0 Z0 E_a1_0 F_a1_bytes_0 F_a1_size_0 A_b_0 ne_a1_b ge_a1 ge_b hsn hmx (by omega)) (by decide) (by decide) (by decide) (by decide) e0 E_a1_0 (g := (mkF m 2 #[.val (.ref a1), .val (.int p2)] [(.int (2 : Int32)), (.ref a1)])) rfl (by rw [hml]; rfl) (lenOf pd_4_0 rfl) rfl (by show 2 * 0 + _ ≤ _; exact Nat.le_of_eq rfl) (hb hby d4_2)
  obtain ⟨b1, n1, f1, rfl, NQ1, KQ1, hE1, hFb1, hFs1, hA1, hab1, hg1, ho1, hs1, hn1, hm1, hf1⟩ := Q1
  refine Goes.step st1 ?_
  have E_a1_1 := E_a1_0.keep KQ1
  have A_b_1 := A_b_0.keep KQ1 (ninS (Ne.symm ne_a1_b) nin0)
  have z_1 : n0 ≤ h1.size := Nat.le_trans Z0 KQ1.1
  have K_1 : Keep h0 h1 [a1, b] := Keep.trans K0 KQ1 (allS (Or.inl (List.mem_of_getElem? (i := 0) rfl)) all0)
  have N_1 := Fr.app N0 NQ1
  have mem_b1 : b1 ∈ [a1, b] ∨ h0.size ≤ b1 := ho1.elim (fun q => q ▸ (Or.inl (List.mem_of_getElem? (i := 1) rfl))) (fun q => Or.inr (Nat.le_trans K0.1 q))
  show Goes p e below s _ _ _ T1 (mkF m 5 #[.val (.ref a1), .val (.int p2)] [])
  refine Goes.step (fun _ k => XS.aloadN X1.here hx rfl (hb hby d4_5) rfl rfl k) ?_
  show Goes p e below s _ _ _ T1 (mkF m 6 #[.val (.ref a1), .val (.int p2)] [(.ref a1)])
  obtain ⟨T2, X2, e2, st2⟩ := getF X1 hx hZ hown (host := "") (Or.inl (hw _ (List.mem_of_getElem? (i := 11) rfl))) Via.refl e1 hFb1 (g := (mkF m 6 #[.val (.ref a1), .val (.int p2)] [(.ref a1)])) rfl rfl (hb hby d4_6)
  refine Goes.step st2 ?_
  show Goes p e below s _ _ _ T2 (mkF m 9 #[.val (.ref a1), .val (.int p2)] [(.ref b1)])
  refine Goes.step (fun _ k => XS.aloadN X2.here hx rfl (hb hby d4_9) rfl rfl k) ?_
  show Goes p e below s _ _ _ T2 (mkF m 10 #[.val (.ref a1), .val (.int p2)] [(.ref a1), (.ref b1)])
  refine Goes.step (fun _ k => XS.dup X2.here hx rfl (hb hby d4_10) rfl rfl k) ?_
  show Goes p e below s _ _ _ T2 (mkF m 11 #[.val (.ref a1), .val (.int p2)] [(.ref a1), (.ref a1), (.ref b1)])
  obtain ⟨T3, X3, e3, st3⟩ := getF X2 hx hZ hown (host := "") (Or.inl (hw _ (List.mem_of_getElem? (i := 27) rfl))) Via.refl e2 hFs1 (g := (mkF m 11 #[.val (.ref a1), .val (.int p2)] [(.ref a1), (.ref a1), (.ref b1)])) rfl rfl (hb hby d4_11)
  refine Goes.step st3 ?_
  show Goes p e below s _ _ _ T3 (mkF m 14 #[.val (.ref a1), .val (.int p2)] [(.int (Int32.ofNat (sz))), (.ref a1), (.ref b1)])
  refine Goes.step (fun _ k => XS.dupX1 X3.here hx rfl (hb hby d4_14) rfl rfl rfl k) ?_
  show Goes p e below s _ _ _ T3 (mkF m 15 #[.val (.ref a1), .val (.int p2)] [(.int (Int32.ofNat (sz))), (.ref a1), (.int (Int32.ofNat (sz))), (.ref b1)])
  refine Goes.step (fun _ k => XS.iconst X3.here hx rfl (hb hby d4_15) k) ?_
  show Goes p e below s _ _ _ T3 (mkF m 16 #[.val (.ref a1), .val (.int p2)] [(.int (1 : Int32)), (.int (Int32.ofNat (sz))), (.ref a1), (.int (Int32.ofNat (sz))), (.ref b1)])
  refine Goes.step (fun _ k => XS.iadd X3.here hx rfl (hb hby d4_16) rfl k) ?_
  show Goes p e below s _ _ _ T3 (mkF m 17 #[.val (.ref a1), .val (.int p2)] [(.int ((Int32.ofNat (sz)) + (1 : Int32))), (.ref a1), (.int (Int32.ofNat (sz))), (.ref b1)])
  rw [show (Int32.ofNat sz) + (1 : Int32) = Int32.ofNat (sz + 1) from (Int32.ofNat_add _ 1).symm]
  obtain ⟨T4, h4, X4, e4, W4, st4⟩ := putF X3 hx hZ hown (host := "") (Or.inl (hw _ (List.mem_of_getElem? (i := 27) rfl))) Via.refl e3 hFs1 hE1 (Or.inl (hw _ (List.mem_of_getElem? (i := 28) rfl))) (hw _ (List.mem_of_getElem? (i := 2) rfl)) (ty := .int) (by decide) rfl rfl (g := (mkF m 17 #[.val (.ref a1), .val (.int p2)] [(.int (Int32.ofNat (sz + 1))), (.ref a1), (.int (Int32.ofNat (sz))), (.ref b1)])) rfl rfl (hb hby d4_17)
  refine Goes.step st4 ?_
  have hE1_4 := hE1.wr W4
  have hFb1_4 := hFb1.other W4 (Or.inr (slot_ne (Or.inl (hw _ (List.mem_of_getElem? (i := 12) rfl))) (Or.inl (hw _ (List.mem_of_getElem? (i := 28) rfl))) (by decide) (t := (.array .byte)) (t' := .int) (by decide) (by decide)))
  have hA1_4 := hA1.other W4 (Ne.symm hab1)
  have z_4 : n0 ≤ h4.size := by rw [W4.size]; exact z_1
  have K_4 : Keep h0 h4 [a1, b] := K_1.wr W4 (Or.inl (List.mem_of_getElem? (i := 0) rfl))
  have N_4 := Fr.snoc X4 N_1 ge_a1
  have hFs1_4 : Fld Z h4 a1 "com/example/proxysmith/proxysmith/ClassFileWriter$Bytes" "size" "I" (.int (Int32.ofNat (sz + 1))) := hFs1.same W4
  show Goes p e below s _ _ _ T4 (mkF m 20 #[.val (.ref a1), .val (.int p2)] [(.int (Int32.ofNat (sz))), (.ref b1)])
  refine Goes.step (fun _ k => XS.iloadN X4.here hx rfl (hb hby d4_20) rfl k) ?_
  show Goes p e below s _ _ _ T4 (mkF m 21 #[.val (.ref a1), .val (.int p2)] [(.int p2), (.int (Int32.ofNat (sz))), (.ref b1)])
  refine Goes.step (fun _ k => XS.bipush X4.here hx rfl (hb hby d4_21) k) ?_
  show Goes p e below s _ _ _ T4 (mkF m 23 #[.val (.ref a1), .val (.int p2)] [(.int (8 : Int32)), (.int p2), (.int (Int32.ofNat (sz))), (.ref b1)])
  refine Goes.step (fun _ k => XS.iushr X4.here hx rfl (hb hby d4_23) rfl k) ?_
  show Goes p e below s _ _ _ T4 (mkF m 24 #[.val (.ref a1), .val (.int p2)] [(.int ((p2.toUInt32 >>> ((8 : Int32) &&& 31).toUInt32).toInt32)), (.int (Int32.ofNat (sz))), (.ref b1)])
  refine Goes.step (fun _ k => XS.i2b X4.here hx rfl (hb hby d4_24) rfl k) ?_
  show Goes p e below s _ _ _ T4 (mkF m 25 #[.val (.ref a1), .val (.int p2)] [(.int (((p2.toUInt32 >>> ((8 : Int32) &&& 31).toUInt32).toInt32).toInt8.toInt32)), (.int (Int32.ofNat (sz))), (.ref b1)])
  obtain ⟨T5, h5, X5, e5, W5, A5, st5⟩ := stoB X4 hx hZ e4 hA1_4 (sz) rfl (by omega) (g := (mkF m 25 #[.val (.ref a1), .val (.int p2)] [(.int (((p2.toUInt32 >>> ((8 : Int32) &&& 31).toUInt32).toInt32).toInt8.toInt32)), (.int (Int32.ofNat (sz))), (.ref b1)])) rfl rfl (hb hby d4_25)
  refine Goes.step st5 ?_
  have hE1_5 := hE1_4.wr W5
  have hFb1_5 := hFb1_4.other W5 (Or.inl hab1)
  have hFs1_5 := hFs1_4.other W5 (Or.inl hab1)
  have z_5 : n0 ≤ h5.size := by rw [W5.size]; exact z_4
  have K_5 : Keep h0 h5 [a1, b] := K_4.wr W5 mem_b1
  have N_5 := Fr.snoc X5 N_4 hg1
  have A_b1_5 : Ari Z h5 b1 .byte (n1) (updI f1 (sz) ((((p2.toUInt32 >>> ((8 : Int32) &&& 31).toUInt32).toInt32).toInt8.toInt32).toInt8.toInt32)) := A5
  show Goes p e below s _ _ _ T5 (mkF m 26 #[.val (.ref a1), .val (.int p2)] [])
  refine Goes.step (fun _ k => XS.aloadN X5.here hx rfl (hb hby d4_26) rfl rfl k) ?_
  show Goes p e below s _ _ _ T5 (mkF m 27 #[.val (.ref a1), .val (.int p2)] [(.ref a1)])
  obtain ⟨T6, X6, e6, st6⟩ := getF X5 hx hZ hown (host := "") (Or.inl (hw _ (List.mem_of_getElem? (i := 11) rfl))) Via.refl e5 hFb1_5 (g := (mkF m 27 #[.val (.ref a1), .val (.int p2)] [(.ref a1)])) rfl rfl (hb hby d4_27)
  refine Goes.step st6 ?_
  show Goes p e below s _ _ _ T6 (mkF m 30 #[.val (.ref a1), .val (.int p2)] [(.ref b1)])
  refine Goes.step (fun _ k => XS.aloadN X6.here hx rfl (hb hby d4_30) rfl rfl k) ?_
  show Goes p e below s _ _ _ T6 (mkF m 31 #[.val (.ref a1), .val (.int p2)] [(.ref a1), (.ref b1)])
  refine Goes.step (fun _ k => XS.dup X6.here hx rfl (hb hby d4_31) rfl rfl k) ?_
  show Goes p e below s _ _ _ T6 (mkF m 32 #[.val (.ref a1), .val (.int p2)] [(.ref a1), (.ref a1), (.ref b1)])
  obtain ⟨T7, X7, e7, st7⟩ := getF X6 hx hZ hown (host := "") (Or.inl (hw _ (List.mem_of_getElem? (i := 27) rfl))) Via.refl e6 hFs1_5 (g := (mkF m 32 #[.val (.ref a1), .val (.int p2)] [(.ref a1), (.ref a1), (.ref b1)])) rfl rfl (hb hby d4_32)
  refine Goes.step st7 ?_
  show Goes p e below s _ _ _ T7 (mkF m 35 #[.val (.ref a1), .val (.int p2)] [(.int (Int32.ofNat (sz + 1))), (.ref a1), (.ref b1)])
  refine Goes.step (fun _ k => XS.dupX1 X7.here hx rfl (hb hby d4_35) rfl rfl rfl k) ?_
  show Goes p e below s _ _ _ T7 (mkF m 36 #[.val (.ref a1), .val (.int p2)] [(.int (Int32.ofNat (sz + 1))), (.ref a1), (.int (Int32.ofNat (sz + 1))), (.ref b1)])
  refine Goes.step (fun _ k => XS.iconst X7.here hx rfl (hb hby d4_36) k) ?_
  show Goes p e below s _ _ _ T7 (mkF m 37 #[.val (.ref a1), .val (.int p2)] [(.int (1 : Int32)), (.int (Int32.ofNat (sz + 1))), (.ref a1), (.int (Int32.ofNat (sz + 1))), (.ref b1)])
  refine Goes.step (fun _ k => XS.iadd X7.here hx rfl (hb hby d4_37) rfl k) ?_
  show Goes p e below s _ _ _ T7 (mkF m 38 #[.val (.ref a1), .val (.int p2)] [(.int ((Int32.ofNat (sz + 1)) + (1 : Int32))), (.ref a1), (.int (Int32.ofNat (sz + 1))), (.ref b1)])
  rw [show (Int32.ofNat (sz + 1)) + (1 : Int32) = Int32.ofNat (sz + 2) from (Int32.ofNat_add _ 1).symm]
  obtain ⟨T8, h8, X8, e8, W8, st8⟩ := putF X7 hx hZ hown (host := "") (Or.inl (hw _ (List.mem_of_getElem? (i := 27) rfl))) Via.refl e7 hFs1_5 hE1_5 (Or.inl (hw _ (List.mem_of_getElem? (i := 28) rfl))) (hw _ (List.mem_of_getElem? (i := 2) rfl)) (ty := .int) (by decide) rfl rfl (g := (mkF m 38 #[.val (.ref a1), .val (.int p2)] [(.int (Int32.ofNat (sz + 2))), (.ref a1), (.int (Int32.ofNat (sz + 1))), (.ref b1)])) rfl rfl (hb hby d4_38)
  refine Goes.step st8 ?_
  have hE1_8 := hE1_5.wr W8
  have hFb1_8 := hFb1_5.other W8 (Or.inr (slot_ne (Or.inl (hw _ (List.mem_of_getElem? (i := 12) rfl))) (Or.inl (hw _ (List.mem_of_getElem? (i := 28) rfl))) (by decide) (t := (.array .byte)) (t' := .int) (by decide) (by decide)))
  have A_b1_8 := A_b1_5.other W8 (Ne.symm hab1)
  have z_8 : n0 ≤ h8.size := by rw [W8.size]; exact z_5
  have K_8 : Keep h0 h8 [a1, b] := K_5.wr W8 (Or.inl (List.mem_of_getElem? (i := 0) rfl))
  have N_8 := Fr.snoc X8 N_5 ge_a1
  have hFs1_8 : Fld Z h8 a1 "com/example/proxysmith/proxysmith/ClassFileWriter$Bytes" "size" "I" (.int (Int32.ofNat (sz + 2))) := hFs1_5.same W8
  show Goes p e below s _ _ _ T8 (mkF m 41 #[.val (.ref a1), .val (.int p2)] [(.int (Int32.ofNat (sz + 1))), (.ref b1)])
  refine Goes.step (fun _ k => XS.iloadN X8.here hx rfl (hb hby d4_41) rfl k) ?_
  show Goes p e below s _ _ _ T8 (mkF m 42 #[.val (.ref a1), .val (.int p2)] [(.int p2), (.int (Int32.ofNat (sz + 1))), (.ref b1)])
  refine Goes.step (fun _ k => XS.i2b X8.here hx rfl (hb hby d4_42) rfl k) ?_
  show Goes p e below s _ _ _ T8 (mkF m 43 #[.val (.ref a1), .val (.int p2)] [(.int (p2.toInt8.toInt32)), (.int (Int32.ofNat (sz + 1))), (.ref b1)])
  obtain ⟨T9, h9, X9, e9, W9, A9, st9⟩ := stoB X8 hx hZ e8 A_b1_8 (sz + 1) rfl (by omega) (g := (mkF m 43 #[.val (.ref a1), .val (.int p2)] [(.int (p2.toInt8.toInt32)), (.int (Int32.ofNat (sz + 1))), (.ref b1)])) rfl rfl (hb hby d4_43)
  refine Goes.step st9 ?_
  have hE1_9 := hE1_8.wr W9
  have hFb1_9 := hFb1_8.other W9 (Or.inl hab1)
  have hFs1_9 := hFs1_8.other W9 (Or.inl hab1)
  have z_9 : n0 ≤ h9.size := by rw [W9.size]; exact z_8
  have K_9 : Keep h0 h9 [a1, b] := K_8.wr W9 mem_b1
  have N_9 := Fr.snoc X9 N_8 hg1
  have A_b1_9 : Ari Z h9 b1 .byte (n1) (updI (updI f1 (sz) ((((p2.toUInt32 >>> ((8 : Int32) &&& 31).toUInt32).toInt32).toInt8.toInt32).toInt8.toInt32)) (sz + 1) ((p2.toInt8.toInt32).toInt8.toInt32)) := A9
  show Goes p e below s _ _ _ T9 (mkF m 44 #[.val (.ref a1), .val (.int p2)] [])
  exact Goes.outV X9 hx hlk Bd.returns (hb hby d4_44) (by rw [e9]; exact ⟨b1, n1, _, rfl, N_9, K_9, hE1_9, hFb1_9, hFs1_9, A_b1_9, hab1, hg1, ho1, by omega, hn1, own_u2 hf1, own_put1 _ _ _ _, own_put0 _ _ _⟩) (by decide) (by decide)
theorem d3_0 : decode prog_13_method_4_code 0 = .ok (.aload_n 0, 1) := by decide +kernel
theorem d3_1 : decode prog_13_method_4_code 1 = .ok (.iload_n 1, 1) := by decide +kernel
theorem d3_2 : decode prog_13_method_4_code 2 = .ok (.bipush 16, 2) := by decide +kernel
theorem d3_4 : decode prog_13_method_4_code 4 = .ok (.iushr, 1) := by decide +kernel
theorem d3_5 : decode prog_13_method_4_code 5 = .ok (.invokevirtual 23, 3) := by decide +kernel
theorem d3_8 : decode prog_13_method_4_code 8 = .ok (.aload_n 0, 1) := by decide +kernel
theorem d3_9 : decode prog_13_method_4_code 9 = .ok (.iload_n 1, 1) := by decide +kernel
theorem d3_10 : decode prog_13_method_4_code 10 = .ok (.invokevirtual 23, 3) := by decide +kernel
theorem d3_13 : decode prog_13_method_4_code 13 = .ok (.return_, 1) := by decide +kernel
theorem pn_3 : plainName "com/example/proxysmith/proxysmith/ClassFileWriter$Bytes" = true := by first | (simp [plainName, overriddenIn]; done) | decide +kernel
theorem pd_3_0 : parseMethodDescriptor "(I)V" = some ⟨[.int], none⟩ := by decide +kernel
theorem ef_3 (m : MethodId) (a1 : Addr) (p2 : Int32) : entryFrame m #[(.ref a1), (.int p2)] 2 = mkF m 0 #[.val (.ref a1), .val (.int p2)] [] := by first | (simp [entryFrame, mkF, argsToLocals, Value.category]; done) | rfl
def Q3 (Z : State) (a1 : Addr) (p2 : Int32) (b : Addr) (n : Nat) (sz : Nat) (f : Nat → Int32) (h0 : Heap) (n0 : Nat) (v : Option Value) (h : Heap) (L : List Loc) : Prop := ∃ b' n' f', v = none ∧ Fr n0 L ∧ Keep h0 h [a1, b] ∧ Exa Z h a1 "com/example/proxysmith/proxysmith/ClassFileWriter$Bytes" ∧ Fld Z h a1 "com/example/proxysmith/proxysmith/ClassFileWriter$Bytes" "bytes" "[B" (.ref b') ∧ Fld Z h a1 "com/example/proxysmith/proxysmith/ClassFileWriter$Bytes" "size" "I" (.int (Int32.ofNat (sz + 4))) ∧ Ari Z h b' .byte n' f' ∧ a1 ≠ b' ∧ n0 ≤ b' ∧ (b' = b ∨ h0.size ≤ b') ∧ sz + 4 ≤ n' ∧ n' ≤ 16 ∧ (∀ j, j < sz → f' j = f j) ∧ f' sz = ((((p2.toUInt32 >>> ((16 : Int32) &&& 31).toUInt32).toInt32).toUInt32 >>> ((8 : Int32) &&& 31).toUInt32).toInt32).toInt8.toInt32 ∧ f' (sz + 1) = ((p2.toUInt32 >>> ((16 : Int32) &&& 31).toUInt32).toInt32).toInt8.toInt32 ∧ f' (sz + 2) = ((p2.toUInt32 >>> ((8 : Int32) &&& 31).toUInt32).toInt32).toInt8.toInt32 ∧ f' (sz + 3) = p2.toInt8.toInt32
set_option maxRecDepth 65536 in
set_option maxHeartbeats 40000000 in
theorem rm3 (l : Launch) (Z : State) (a0 : Array Value) (hw : ∀ d ∈ tables_1, d.before a0 Z = true) (ws : List Jvm.Cond) (a1 : Addr) (p2 : Int32) (b : Addr) (n : Nat) (sz : Nat) (f : Nat → Int32) (h0 : Heap) (n0 : Nat) (Z0 : n0 ≤ h0.size) (E_a1_0 : Exa Z h0 a1 "com/example/proxysmith/proxysmith/ClassFileWriter$Bytes") (F_a1_bytes_0 : Fld Z h0 a1 "com/example/proxysmith/proxysmith/ClassFileWriter$Bytes" "bytes" "[B" (.ref b)) (F_a1_size_0 : Fld Z h0 a1 "com/example/proxysmith/proxysmith/ClassFileWriter$Bytes" "size" "I" (.int (Int32.ofNat sz))) (A_b_0 : Ari Z h0 b .byte n f) (ne_a1_b : a1 ≠ b) (ge_a1 : n0 ≤ a1) (ge_b : n0 ≤ b) (hsn : sz ≤ n) (hmx : n ≤ 16) (hmo : sz + 4 ≤ 7) :
    MetFree l (⟨"com/example/proxysmith/proxysmith/ClassFileWriter$Bytes", "u4", "(I)V"⟩ : MethodName) (head1 (Jvm.Cond.code (⟨"com/example/proxysmith/proxysmith/ClassFileWriter$Bytes", "u4", "(I)V"⟩ : MethodName) prog_13_method_4_code 2 none :: ws) ({ frames := 4, cells := 2, slots := 24, locals := 81 } : Room)) (fun a U => a = #[(.ref a1), (.int p2)] ∧ Z.Warmed39 U.vm ∧ U.heap = h0) (fun _ _ _ _ _ => True) (fun _ U o U' => ∃ v L, o = .returned v ∧ Q3 Z a1 p2 b n sz f h0 n0 v U'.heap L ∧ FrameEnd U o U' L ({ frames := 4, cells := 2, slots := 24, locals := 81 } : Room).cells ({ frames := 4, cells := 2, slots := 24, locals := 81 } : Room).slots) := by
  refine MetFree.of_bodySF (plainFor_of_name pn_3) hisR ?_
  intro p e s m args below meth c s₁ Bd hml0 hP hK
  obtain ⟨rfl, hZ, hh⟩ := hP
  have hx := Bd.exec
  have hby := Bd.bytes
  have hlk := Bd.notSynchronized
  have hml : c.maxLocals = 2 := hml0
  have hown : s.vm.findClass "com/example/proxysmith/proxysmith/ClassFileWriter$Bytes" = some m.cls := findClass_of_methodNamed Bd.named
  have hnm := (name_of_methodNamed Bd.named Bd.method).1
  have X0 : Stand p l e ({ frames := 4, cells := 2, slots := 24, locals := 81 } : Room) s m #[(.ref a1), (.int p2)] below meth c s₁ [] 0 0 := Stand.of_body Bd
  have e0 : s₁.heap = h0 := by rw [← hh, Bd.state]; rfl
  have N0 := Fr.nil n0
  have K0 : Keep h0 h0 [a1, b] := Keep.refl h0 _
  show Goes p e below s ({ frames := 4, cells := 2, slots := 24, locals := 81 } : Room).cells ({ frames := 4, cells := 2, slots := 24, locals := 81 } : Room).slots (Q3 Z a1 p2 b n sz f h0 n0) s₁ (entryFrame m #[(.ref a1), (.int p2)] 2)
  refine Goes.step (fun t k => castTop (ef_3 m a1 p2) k) ?_
  refine Goes.step (fun _ k => XS.aloadN X0.here hx rfl (hb hby d3_0) rfl rfl k) ?_
  show Goes p e below s _ _ _ s₁ (mkF m 1 #[.val (.ref a1), .val (.int p2)] [(.ref a1)])
  refine Goes.step (fun _ k => XS.iloadN X0.here hx rfl (hb hby d3_1) rfl k) ?_
  show Goes p e below s _ _ _ s₁ (mkF m 2 #[.val (.ref a1), .val (.int p2)] [(.int p2), (.ref a1)])
  refine Goes.step (fun _ k => XS.bipush X0.here hx rfl (hb hby d3_2) k) ?_
  show Goes p e below s _ _ _ s₁ (mkF m 4 #[.val (.ref a1), .val (.int p2)] [(.int (16 : Int32)), (.int p2), (.ref a1)])
  refine Goes.step (fun _ k => XS.iushr X0.here hx rfl (hb hby d3_4) rfl k) ?_
  show Goes p e below s _ _ _ s₁ (mkF m 5 #[.val (.ref a1), .val (.int p2)] [(.int ((p2.toUInt32 >>> ((16 : Int32) &&& 31).toUInt32).toInt32)), (.ref a1)])
  obtain ⟨v1, T1, h1, L1, X1, e1, Q1, st1⟩ := callXV X0 hx hZ (C := "com/example/proxysmith/proxysmith/ClassFileWriter$Bytes") (b := a1) (y := (⟨"com/example/proxysmith/proxysmith/ClassFileWriter$Bytes", "u2", "(I)V"⟩ : MethodName)) (z := (⟨"com/example/proxysmith/proxysmith/ClassFileWriter$Bytes", "u2", "(I)V"⟩ : MethodName)) hown (hw _ (List.mem_of_getElem? (i := 18) rfl)) (hw _ (List.mem_of_getElem? (i := 19) rfl)) (hw _ (List.mem_of_getElem? (i := 21) rfl)) (hw _ (List.mem_of_getElem? (i := 20) rfl)) (hw _ (List.mem_of_getElem? (i := 22) rfl)) (hw _ (List.mem_of_getElem? (i := 3) rfl)) (notFace_of_selects (args := #[]) (mvT hZ (hw _ (List.mem_of_getElem? (i := 21) rfl)))) (by decide) (W := 0) (argsL := [(.int ((p2.toUInt32 >>> ((16 : Int32) &&& 31).toUInt32).toInt32))]) (rest := []) (rm4 l Z a0 hw [] a1 ((p2.toUInt32 >>> ((16 : Int32) &&& 31).toUInt32).toInt32) b n sz f h0 n0 Z0 E_a1_0 F_a1_bytes_0 F_a1_size_0 A_b_0 ne_a1_b ge_a1 ge_b hsn hmx (by omega)) (by decide) (by decide) (by decide) (by decide) e0 E_a1_0 (g := (mkF m 5 #[.val (.ref a1), .val (.int p2)] [(.int ((p2.toUInt32 >>> ((16 : Int32) &&& 31).toUInt32).toInt32)), (.ref a1)])) rfl (by rw [hml]; rfl) (lenOf pd_3_0 rfl) rfl (by show 2 * 0 + _ ≤ _; exact Nat.le_of_eq rfl) (hb hby d3_5)
  obtain ⟨b1, n1, f1, rfl, NQ1, KQ1, hE1, hFb1, hFs1, hA1, hab1, hg1, ho1, hs1, hn1, hf1, hv1, hu1⟩ := Q1
  refine Goes.step st1 ?_
  have E_a1_1 := E_a1_0.keep KQ1
  have z_1 : n0 ≤ h1.size := Nat.le_trans Z0 KQ1.1
  have K_1 : Keep h0 h1 [a1, b] := Keep.trans K0 KQ1 (allS (Or.inl (List.mem_of_getElem? (i := 0) rfl)) (allS (Or.inl (List.mem_of_getElem? (i := 1) rfl)) all0))
  have N_1 := Fr.app N0 NQ1
  have mem_b1 : b1 ∈ [a1, b] ∨ h0.size ≤ b1 := ho1.elim (fun q => q ▸ (Or.inl (List.mem_of_getElem? (i := 1) rfl))) (fun q => Or.inr (Nat.le_trans K0.1 q))
  show Goes p e below s _ _ _ T1 (mkF m 8 #[.val (.ref a1), .val (.int p2)] [])
  refine Goes.step (fun _ k => XS.aloadN X1.here hx rfl (hb hby d3_8) rfl rfl k) ?_
  show Goes p e below s _ _ _ T1 (mkF m 9 #[.val (.ref a1), .val (.int p2)] [(.ref a1)])
  refine Goes.step (fun _ k => XS.iloadN X1.here hx rfl (hb hby d3_9) rfl k) ?_
  show Goes p e below s _ _ _ T1 (mkF m 10 #[.val (.ref a1), .val (.int p2)] [(.int p2), (.ref a1)])
  obtain ⟨v2, T2, h2, L2, X2, e2, Q2, st2⟩ := callXV X1 hx hZ (C := "com/example/proxysmith/proxysmith/ClassFileWriter$Bytes") (b := a1) (y := (⟨"com/example/proxysmith/proxysmith/ClassFileWriter$Bytes", "u2", "(I)V"⟩ : MethodName)) (z := (⟨"com/example/proxysmith/proxysmith/ClassFileWriter$Bytes", "u2", "(I)V"⟩ : MethodName)) hown (hw _ (List.mem_of_getElem? (i := 18) rfl)) (hw _ (List.mem_of_getElem? (i := 19) rfl)) (hw _ (List.mem_of_getElem? (i := 21) rfl)) (hw _ (List.mem_of_getElem? (i := 20) rfl)) (hw _ (List.mem_of_getElem? (i := 22) rfl)) (hw _ (List.mem_of_getElem? (i := 3) rfl)) (notFace_of_selects (args := #[]) (mvT hZ (hw _ (List.mem_of_getElem? (i := 21) rfl)))) (by decide) (W := 0) (argsL := [(.int p2)]) (rest := []) (rm4 l Z a0 hw [] a1 p2 b1 n1 (sz + 2) f1 h1 n0 z_1 hE1 hFb1 hFs1 hA1 hab1 ge_a1 hg1 hs1 hn1 (by omega)) (by decide) (by decide) (by decide) (by decide) e1 hE1 (g := (mkF m 10 #[.val (.ref a1), .val (.int p2)] [(.int p2), (.ref a1)])) rfl (by rw [hml]; rfl) (lenOf pd_3_0 rfl) rfl (by show 2 * 0 + _ ≤ _; exact Nat.le_of_eq rfl) (hb hby d3_10)
  obtain ⟨b2, n2, f2, rfl, NQ2, KQ2, hE2, hFb2, hFs2, hA2, hab2, hg2, ho2, hs2, hn2, hf2, hv2, hu2⟩ := Q2
  refine Goes.step st2 ?_
  have hE1_2 := hE1.keep KQ2
  have z_2 : n0 ≤ h2.size := Nat.le_trans z_1 KQ2.1
  have K_2 : Keep h0 h2 [a1, b] := Keep.trans K_1 KQ2 (allS (Or.inl (List.mem_of_getElem? (i := 0) rfl)) (allS mem_b1 all0))
  have N_2 := Fr.app N_1 NQ2
  have mem_b2 : b2 ∈ [a1, b] ∨ h0.size ≤ b2 := ho2.elim (fun q => q ▸ mem_b1) (fun q => Or.inr (Nat.le_trans K_1.1 q))
  show Goes p e below s _ _ _ T2 (mkF m 13 #[.val (.ref a1), .val (.int p2)] [])
  exact Goes.outV X2 hx hlk Bd.returns (hb hby d3_13) (by rw [e2]; exact ⟨b2, n2, f2, rfl, N_2, K_2, hE2, hFb2, hFs2, hA2, hab2, hg2, own_o2 ho1 ho2 K_1, by omega, hn2, fun j hj => (hf2 j (by omega)).trans (hf1 j hj), (hf2 _ (by omega)).trans hv1, (hf2 _ (by omega)).trans hu1, hv2, hu2⟩) (by decide) (by decide)
theorem d9_0 : decode prog_13_method_7_code 0 = .ok (.aload_n 0, 1) := by decide +kernel
theorem d9_1 : decode prog_13_method_7_code 1 = .ok (.getfield 9, 3) := by decide +kernel
theorem d9_4 : decode prog_13_method_7_code 4 = .ok (.iload_n 1, 1) := by decide +kernel
theorem d9_5 : decode prog_13_method_7_code 5 = .ok (.iload_n 2, 1) := by decide +kernel
theorem d9_6 : decode prog_13_method_7_code 6 = .ok (.bipush 8, 2) := by decide +kernel
theorem d9_8 : decode prog_13_method_7_code 8 = .ok (.iushr, 1) := by decide +kernel
theorem d9_9 : decode prog_13_method_7_code 9 = .ok (.i2b, 1) := by decide +kernel
theorem d9_10 : decode prog_13_method_7_code 10 = .ok (.bastore, 1) := by decide +kernel
theorem d9_11 : decode prog_13_method_7_code 11 = .ok (.aload_n 0, 1) := by decide +kernel
theorem d9_12 : decode prog_13_method_7_code 12 = .ok (.getfield 9, 3) := by decide +kernel
theorem d9_15 : decode prog_13_method_7_code 15 = .ok (.iload_n 1, 1) := by decide +kernel
theorem d9_16 : decode prog_13_method_7_code 16 = .ok (.iconst 1, 1) := by decide +kernel
theorem d9_17 : decode prog_13_method_7_code 17 = .ok (.iadd, 1) := by decide +kernel
theorem d9_18 : decode prog_13_method_7_code 18 = .ok (.iload_n 2, 1) := by decide +kernel
theorem d9_19 : decode prog_13_method_7_code 19 = .ok (.i2b, 1) := by decide +kernel
theorem d9_20 : decode prog_13_method_7_code 20 = .ok (.bastore, 1) := by decide +kernel
theorem d9_21 : decode prog_13_method_7_code 21 = .ok (.return_, 1) := by decide +kernel
theorem pn_9 : plainName "com/example/proxysmith/proxysmith/ClassFileWriter$Bytes" = true := by first | (simp [plainName, overriddenIn]; done) | decide +kernel
theorem ef_9 (m : MethodId) (a1 : Addr) (p3 : Int32) : entryFrame m #[(.ref a1), (.int (Int32.ofNat at_)), (.int p3)] 3 = mkF m 0 #[.val (.ref a1), .val (.int (Int32.ofNat at_)), .val (.int p3)] [] := by first | (simp [entryFrame, mkF, argsToLocals, Value.category]; done) | rfl
def Q9 (Z : State) (a1 : Addr) (p3 : Int32) (at_ : Nat) (b : Addr) (n : Nat) (sz : Nat) (f : Nat → Int32) (h0 : Heap) (n0 : Nat) (v : Option Value) (h : Heap) (L : List Loc) : Prop := v = none ∧ Fr n0 L ∧ Keep h0 h [a1, b] ∧ Exa Z h a1 "com/example/proxysmith/proxysmith/ClassFileWriter$Bytes" ∧ Fld Z h a1 "com/example/proxysmith/proxysmith/ClassFileWriter$Bytes" "bytes" "[B" (.ref b) ∧ Fld Z h a1 "com/example/proxysmith/proxysmith/ClassFileWriter$Bytes" "size" "I" (.int (Int32.ofNat sz)) ∧ Ari Z h b .byte n (updI (updI f at_ ((p3.toUInt32 >>> ((8 : Int32) &&& 31).toUInt32).toInt32).toInt8.toInt32) (at_ + 1) p3.toInt8.toInt32)
set_option maxRecDepth 65536 in
set_option maxHeartbeats 40000000 in
theorem rm9 (l : Launch) (Z : State) (a0 : Array Value) (hw : ∀ d ∈ tables_1, d.before a0 Z = true) (ws : List Jvm.Cond) (a1 : Addr) (p3 : Int32) (at_ : Nat) (b : Addr) (n : Nat) (sz : Nat) (f : Nat → Int32) (h0 : Heap) (n0 : Nat) (Z0 : n0 ≤ h0.size) (E_a1_0 : Exa Z h0 a1 "com/example/proxysmith/proxysmith/ClassFileWriter$Bytes") (F_a1_bytes_0 : Fld Z h0 a1 "com/example/proxysmith/proxysmith/ClassFileWriter$Bytes" "bytes" "[B" (.ref b)) (F_a1_size_0 : Fld Z h0 a1 "com/example/proxysmith/proxysmith/ClassFileWriter$Bytes" "size" "I" (.int (Int32.ofNat sz))) (A_b_0 : Ari Z h0 b .byte n f) (ne_a1_b : a1 ≠ b) (ge_a1 : n0 ≤ a1) (ge_b : n0 ≤ b) (hsn : sz ≤ n) (hmx : n ≤ 16) (hat : at_ + 2 ≤ n) :
    MetFree l (⟨"com/example/proxysmith/proxysmith/ClassFileWriter$Bytes", "u2At", "(II)V"⟩ : MethodName) (head1 (Jvm.Cond.code (⟨"com/example/proxysmith/proxysmith/ClassFileWriter$Bytes", "u2At", "(II)V"⟩ : MethodName) prog_13_method_7_code 3 none :: ws) ({ frames := 0, cells := 0, slots := 0, locals := 0 } : Room)) (fun a U => a = #[(.ref a1), (.int (Int32.ofNat at_)), (.int p3)] ∧ Z.Warmed39 U.vm ∧ U.heap = h0) (fun _ _ _ _ _ => True) (fun _ U o U' => ∃ v L, o = .returned v ∧ Q9 Z a1 p3 at_ b n sz f h0 n0 v U'.heap L ∧ FrameEnd U o U' L ({ frames := 0, cells := 0, slots := 0, locals := 0 } : Room).cells ({ frames := 0, cells := 0, slots := 0, locals := 0 } : Room).slots) := by
  refine MetFree.of_bodySF (plainFor_of_name pn_9) hisR ?_
  intro p e s m args below meth c s₁ Bd hml0 hP hK
  obtain ⟨rfl, hZ, hh⟩ := hP
  have hx := Bd.exec
  have hby := Bd.bytes
  have hlk := Bd.notSynchronized
  have hml : c.maxLocals = 3 := hml0
  have hown : s.vm.findClass "com/example/proxysmith/proxysmith/ClassFileWriter$Bytes" = some m.cls := findClass_of_methodNamed Bd.named
  have hnm := (name_of_methodNamed Bd.named Bd.method).1
  have X0 : Stand p l e ({ frames := 0, cells := 0, slots := 0, locals := 0 } : Room) s m #[(.ref a1), (.int (Int32.ofNat at_)), (.int p3)] below meth c s₁ [] 0 0 := Stand.of_body Bd
  have e0 : s₁.heap = h0 := by rw [← hh, Bd.state]; rfl
  have N0 := Fr.nil n0
  have K0 : Keep h0 h0 [a1, b] := Keep.refl h0 _
  show Goes p e below s ({ frames := 0, cells := 0, slots := 0, locals := 0 } : Room).cells ({ frames := 0, cells := 0, slots := 0, locals := 0 } : Room).slots (Q9 Z a1 p3 at_ b n sz f h0 n0) s₁ (entryFrame m #[(.ref a1), (.int (Int32.ofNat at_)), (.int p3)] 3)
  refine Goes.step (fun t k => castTop (ef_9 m a1 p3) k) ?_
  refine Goes.step (fun _ k => XS.aloadN X0.here hx rfl (hb hby d9_0) rfl rfl k) ?_
  show Goes p e below s _ _ _ s₁ (mkF m 1 #[.val (.ref a1), .val (.int (Int32.ofNat at_)), .val (.int p3)] [(.ref a1)])
  obtain ⟨T1, X1, e1, st1⟩ := getF X0 hx hZ hown (host := "") (Or.inl (hw _ (List.mem_of_getElem? (i := 11) rfl))) Via.refl e0 F_a1_bytes_0 (g := (mkF m 1 #[.val (.ref a1), .val (.int (Int32.ofNat at_)), .val (.int p3)] [(.ref a1)])) rfl rfl (hb hby d9_1)
  refine Goes.step st1 ?_
  show Goes p e below s _ _ _ T1 (mkF m 4 #[.val (.ref a1), .val (.int (Int32.ofNat at_)), .val (.int p3)] [(.ref b)])
  refine Goes.step (fun _ k => XS.iloadN X1.here hx rfl (hb hby d9_4) rfl k) ?_
  show Goes p e below s _ _ _ T1 (mkF m 5 #[.val (.ref a1), .val (.int (Int32.ofNat at_)), .val (.int p3)] [(.int (Int32.ofNat at_)), (.ref b)])
  refine Goes.step (fun _ k => XS.iloadN X1.here hx rfl (hb hby d9_5) rfl k) ?_
  show Goes p e below s _ _ _ T1 (mkF m 6 #[.val (.ref a1), .val (.int (Int32.ofNat at_)), .val (.int p3)] [(.int p3), (.int (Int32.ofNat at_)), (.ref b)])
  refine Goes.step (fun _ k => XS.bipush X1.here hx rfl (hb hby d9_6) k) ?_
  show Goes p e below s _ _ _ T1 (mkF m 8 #[.val (.ref a1), .val (.int (Int32.ofNat at_)), .val (.int p3)] [(.int (8 : Int32)), (.int p3), (.int (Int32.ofNat at_)), (.ref b)])
  refine Goes.step (fun _ k => XS.iushr X1.here hx rfl (hb hby d9_8) rfl k) ?_
  show Goes p e below s _ _ _ T1 (mkF m 9 #[.val (.ref a1), .val (.int (Int32.ofNat at_)), .val (.int p3)] [(.int ((p3.toUInt32 >>> ((8 : Int32) &&& 31).toUInt32).toInt32)), (.int (Int32.ofNat at_)), (.ref b)])
  refine Goes.step (fun _ k => XS.i2b X1.here hx rfl (hb hby d9_9) rfl k) ?_
  show Goes p e below s _ _ _ T1 (mkF m 10 #[.val (.ref a1), .val (.int (Int32.ofNat at_)), .val (.int p3)] [(.int (((p3.toUInt32 >>> ((8 : Int32) &&& 31).toUInt32).toInt32).toInt8.toInt32)), (.int (Int32.ofNat at_)), (.ref b)])
  obtain ⟨T2, h2, X2, e2, W2, A2, st2⟩ := stoB X1 hx hZ e1 A_b_0 (at_) rfl (by omega) (g := (mkF m 10 #[.val (.ref a1), .val (.int (Int32.ofNat at_)), .val (.int p3)] [(.int (((p3.toUInt32 >>> ((8 : Int32) &&& 31).toUInt32).toInt32).toInt8.toInt32)), (.int (Int32.ofNat at_)), (.ref b)])) rfl rfl (hb hby d9_10)
  refine Goes.step st2 ?_
  have E_a1_2 := E_a1_0.wr W2
  have F_a1_bytes_2 := F_a1_bytes_0.other W2 (Or.inl ne_a1_b)
  have F_a1_size_2 := F_a1_size_0.other W2 (Or.inl ne_a1_b)
  have z_2 : n0 ≤ h2.size := by rw [W2.size]; exact Z0
  have K_2 : Keep h0 h2 [a1, b] := K0.wr W2 (Or.inl (List.mem_of_getElem? (i := 1) rfl))
  have N_2 := Fr.snoc X2 N0 ge_b
  have A_b_2 : Ari Z h2 b .byte (n) (updI f (at_) ((((p3.toUInt32 >>> ((8 : Int32) &&& 31).toUInt32).toInt32).toInt8.toInt32).toInt8.toInt32)) := A2
  show Goes p e below s _ _ _ T2 (mkF m 11 #[.val (.ref a1), .val (.int (Int32.ofNat at_)), .val (.int p3)] [])
  refine Goes.step (fun _ k => XS.aloadN X2.here hx rfl (hb hby d9_11) rfl rfl k) ?_
  show Goes p e below s _ _ _ T2 (mkF m 12 #[.val (.ref a1), .val (.int (Int32.ofNat at_)), .val (.int p3)] [(.ref a1)])
  obtain ⟨T3, X3, e3, st3⟩ := getF X2 hx hZ hown (host := "") (Or.inl (hw _ (List.mem_of_getElem? (i := 11) rfl))) Via.refl e2 F_a1_bytes_2 (g := (mkF m 12 #[.val (.ref a1), .val (.int (Int32.ofNat at_)), .val (.int p3)] [(.ref a1)])) rfl rfl (hb hby d9_12)
  refine Goes.step st3 ?_
  show Goes p e below s _ _ _ T3 (mkF m 15 #[.val (.ref a1), .val (.int (Int32.ofNat at_)), .val (.int p3)] [(.ref b)])
  refine Goes.step (fun _ k => XS.iloadN X3.here hx rfl (hb hby d9_15) rfl k) ?_
  show Goes p e below s _ _ _ T3 (mkF m 16 #[.val (.ref a1), .val (.int (Int32.ofNat at_)), .val (.int p3)] [(.int (Int32.ofNat at_)), (.ref b)])
  refine Goes.step (fun _ k => XS.iconst X3.here hx rfl (hb hby d9_16) k) ?_
  show Goes p e below s _ _ _ T3 (mkF m 17 #[.val (.ref a1), .val (.int (Int32.ofNat at_)), .val (.int p3)] [(.int (1 : Int32)), (.int (Int32.ofNat at_)), (.ref b)])
  refine Goes.step (fun _ k => XS.iadd X3.here hx rfl (hb hby d9_17) rfl k) ?_
  show Goes p e below s _ _ _ T3 (mkF m 18 #[.val (.ref a1), .val (.int (Int32.ofNat at_)), .val (.int p3)] [(.int ((Int32.ofNat at_) + (1 : Int32))), (.ref b)])
  rw [show (Int32.ofNat at_) + (1 : Int32) = Int32.ofNat (at_ + 1) from (Int32.ofNat_add _ 1).symm]
  refine Goes.step (fun _ k => XS.iloadN X3.here hx rfl (hb hby d9_18) rfl k) ?_
  show Goes p e below s _ _ _ T3 (mkF m 19 #[.val (.ref a1), .val (.int (Int32.ofNat at_)), .val (.int p3)] [(.int p3), (.int (Int32.ofNat (at_ + 1))), (.ref b)])
  refine Goes.step (fun _ k => XS.i2b X3.here hx rfl (hb hby d9_19) rfl k) ?_
  show Goes p e below s _ _ _ T3 (mkF m 20 #[.val (.ref a1), .val (.int (Int32.ofNat at_)), .val (.int p3)] [(.int (p3.toInt8.toInt32)), (.int (Int32.ofNat (at_ + 1))), (.ref b)])
  obtain ⟨T4, h4, X4, e4, W4, A4, st4⟩ := stoB X3 hx hZ e3 A_b_2 (at_ + 1) rfl (by omega) (g := (mkF m 20 #[.val (.ref a1), .val (.int (Int32.ofNat at_)), .val (.int p3)] [(.int (p3.toInt8.toInt32)), (.int (Int32.ofNat (at_ + 1))), (.ref b)])) rfl rfl (hb hby d9_20)
  refine Goes.step st4 ?_
  have E_a1_4 := E_a1_2.wr W4
  have F_a1_bytes_4 := F_a1_bytes_2.other W4 (Or.inl ne_a1_b)
  have F_a1_size_4 := F_a1_size_2.other W4 (Or.inl ne_a1_b)
  have z_4 : n0 ≤ h4.size := by rw [W4.size]; exact z_2
  have K_4 : Keep h0 h4 [a1, b] := K_2.wr W4 (Or.inl (List.mem_of_getElem? (i := 1) rfl))
  have N_4 := Fr.snoc X4 N_2 ge_b
  have A_b_4 : Ari Z h4 b .byte (n) (updI (updI f (at_) ((((p3.toUInt32 >>> ((8 : Int32) &&& 31).toUInt32).toInt32).toInt8.toInt32).toInt8.toInt32)) (at_ + 1) ((p3.toInt8.toInt32).toInt8.toInt32)) := A4
  show Goes p e below s _ _ _ T4 (mkF m 21 #[.val (.ref a1), .val (.int (Int32.ofNat at_)), .val (.int p3)] [])
  exact Goes.outV X4 hx hlk Bd.returns (hb hby d9_21) (by rw [e4]; exact ⟨rfl, N_4, K_4, E_a1_4, F_a1_bytes_4, F_a1_size_4, A_b_4.cast (fun j _ => by simp only [own_BB])⟩) (by decide) (by decide)
theorem d10_0 : decode prog_13_method_9_code 0 = .ok (.aload_n 0, 1) := by decide +kernel
theorem d10_1 : decode prog_13_method_9_code 1 = .ok (.getfield 19, 3) := by decide +kernel
theorem d10_4 : decode prog_13_method_9_code 4 = .ok (.ireturn, 1) := by decide +kernel
theorem pn_10 : plainName "com/example/proxysmith/proxysmith/ClassFileWriter$Bytes" = true := by first | (simp [plainName, overriddenIn]; done) | decide +kernel
theorem ef_10 (m : MethodId) (a1 : Addr) : entryFrame m #[(.ref a1)] 1 = mkF m 0 #[.val (.ref a1)] [] := by first | (simp [entryFrame, mkF, argsToLocals, Value.category]; done) | rfl
def f10 (a1 : Addr) (z : Int32) : Int32 := z
set_option maxRecDepth 65536 in
set_option maxHeartbeats 40000000 in
theorem rm10 (l : Launch) (Z : State) (a0 : Array Value) (hw : ∀ d ∈ tables_1, d.before a0 Z = true) (ws : List Jvm.Cond) (a1 : Addr) (z : Int32) (h0 : Heap) (Fz : Fld Z h0 a1 "com/example/proxysmith/proxysmith/ClassFileWriter$Bytes" "size" "I" (.int z)) :
    MetFree l (⟨"com/example/proxysmith/proxysmith/ClassFileWriter$Bytes", "size", "()I"⟩ : MethodName) (head1 (Jvm.Cond.code (⟨"com/example/proxysmith/proxysmith/ClassFileWriter$Bytes", "size", "()I"⟩ : MethodName) prog_13_method_9_code 1 (some .int) :: ws) ({ frames := 0, cells := 0, slots := 0, locals := 0 } : Room)) (fun a U => a = #[(.ref a1)] ∧ Z.Warmed39 U.vm ∧ U.heap = h0) (fun _ _ _ _ _ => True) (fun _ U o U' => ∃ v L, o = .returned v ∧ PI h0 (f10 a1 z) v U'.heap L ∧ FrameEnd U o U' L ({ frames := 0, cells := 0, slots := 0, locals := 0 } : Room).cells ({ frames := 0, cells := 0, slots := 0, locals := 0 } : Room).slots) := by
  refine MetFree.of_bodySF (plainFor_of_name pn_10) hisR ?_
  intro p e s m args below meth c s₁ Bd hml0 hP hK
  obtain ⟨rfl, hZ, hh⟩ := hP
  have hx := Bd.exec
  have hby := Bd.bytes
  have hlk := Bd.notSynchronized
  have hml : c.maxLocals = 1 := hml0
  have hown : s.vm.findClass "com/example/proxysmith/proxysmith/ClassFileWriter$Bytes" = some m.cls := findClass_of_methodNamed Bd.named
  have X0 : Stand p l e ({ frames := 0, cells := 0, slots := 0, locals := 0 } : Room) s m #[(.ref a1)] below meth c s₁ [] 0 0 := Stand.of_body Bd
  have e0 : s₁.heap = h0 := by rw [← hh, Bd.state]; rfl
  show Goes p e below s ({ frames := 0, cells := 0, slots := 0, locals := 0 } : Room).cells ({ frames := 0, cells := 0, slots := 0, locals := 0 } : Room).slots (PI h0 (f10 a1 z)) s₁ (entryFrame m #[(.ref a1)] 1)
  refine Goes.step (fun t k => castTop (ef_10 m a1) k) ?_
  refine Goes.step (fun _ k => XS.aloadN X0.here hx rfl (hb hby d10_0) rfl rfl k) ?_
  show Goes p e below s _ _ _ s₁ (mkF m 1 #[.val (.ref a1)] [(.ref a1)])
  obtain ⟨T1, X1, e1, st1⟩ := getF X0 hx hZ hown (host := "") (Or.inl (hw _ (List.mem_of_getElem? (i := 27) rfl))) Via.refl e0 Fz (g := (mkF m 1 #[.val (.ref a1)] [(.ref a1)])) rfl rfl (hb hby d10_1)
  refine Goes.step st1 ?_
  show Goes p e below s _ _ _ T1 (mkF m 4 #[.val (.ref a1)] [(.int z)])
  exact Goes.outI X1 hx hlk Bd.returns (hb hby d10_4) ⟨rfl, rfl, e1⟩ (by decide) (by decide)
theorem d11_0 : decode prog_13_method_10_code 0 = .ok (.aload_n 0, 1) := by decide +kernel
theorem d11_1 : decode prog_13_method_10_code 1 = .ok (.getfield 19, 3) := by decide +kernel
theorem d11_4 : decode prog_13_method_10_code 4 = .ok (.aload_n 0, 1) := by decide +kernel
theorem d11_5 : decode prog_13_method_10_code 5 = .ok (.getfield 9, 3) := by decide +kernel
theorem d11_8 : decode prog_13_method_10_code 8 = .ok (.arraylength, 1) := by decide +kernel
theorem d11_9 : decode prog_13_method_10_code 9 = .ok (.if_icmp .ne 10, 3) := by decide +kernel
theorem d11_12 : decode prog_13_method_10_code 12 = .ok (.aload_n 0, 1) := by decide +kernel
theorem d11_13 : decode prog_13_method_10_code 13 = .ok (.getfield 9, 3) := by decide +kernel
theorem d11_16 : decode prog_13_method_10_code 16 = .ok (.goto 14, 3) := by decide +kernel
theorem d11_19 : decode prog_13_method_10_code 19 = .ok (.aload_n 0, 1) := by decide +kernel
theorem d11_20 : decode prog_13_method_10_code 20 = .ok (.getfield 9, 3) := by decide +kernel
theorem d11_23 : decode prog_13_method_10_code 23 = .ok (.aload_n 0, 1) := by decide +kernel
theorem d11_24 : decode prog_13_method_10_code 24 = .ok (.getfield 19, 3) := by decide +kernel
theorem d11_27 : decode prog_13_method_10_code 27 = .ok (.invokestatic 56, 3) := by decide +kernel
theorem d11_30 : decode prog_13_method_10_code 30 = .ok (.areturn, 1) := by decide +kernel
theorem pn_11 : plainName "com/example/proxysmith/proxysmith/ClassFileWriter$Bytes" = true := by first | (simp [plainName, overriddenIn]; done) | decide +kernel
theorem pd_11_0 : parseMethodDescriptor "([BI)[B" = some ⟨[(.array .byte), .int], some (.array .byte)⟩ := by decide +kernel
theorem ef_11 (m : MethodId) (a1 : Addr) : entryFrame m #[(.ref a1)] 1 = mkF m 0 #[.val (.ref a1)] [] := by first | (simp [entryFrame, mkF, argsToLocals, Value.category]; done) | rfl
def Q11 (Z : State) (a1 : Addr) (b : Addr) (n : Nat) (sz : Nat) (f : Nat → Int32) (h0 : Heap) (n0 : Nat) (v : Option Value) (h : Heap) (L : List Loc) : Prop := ∃ r, v = some (.ref r) ∧ Fr n0 L ∧ Keep h0 h [] ∧ ∃ g, Ari Z h r .byte sz g ∧ ∀ j, j < sz → g j = f j
set_option maxRecDepth 65536 in
set_option maxHeartbeats 40000000 in
theorem rm11 (l : Launch) (Z : State) (a0 : Array Value) (hw : ∀ d ∈ tables_1, d.before a0 Z = true) (ws : List Jvm.Cond) (a1 : Addr) (b : Addr) (n : Nat) (sz : Nat) (f : Nat → Int32) (h0 : Heap) (n0 : Nat) (Z0 : n0 ≤ h0.size) (E_a1_0 : Exa Z h0 a1 "com/example/proxysmith/proxysmith/ClassFileWriter$Bytes") (F_a1_bytes_0 : Fld Z h0 a1 "com/example/proxysmith/proxysmith/ClassFileWriter$Bytes" "bytes" "[B" (.ref b)) (F_a1_size_0 : Fld Z h0 a1 "com/example/proxysmith/proxysmith/ClassFileWriter$Bytes" "size" "I" (.int (Int32.ofNat sz))) (A_b_0 : Ari Z h0 b .byte n f) (ne_a1_b : a1 ≠ b) (ge_a1 : n0 ≤ a1) (ge_b : n0 ≤ b) (hsn : sz ≤ n) (hmx : n ≤ 16) (hmo : sz ≤ 12) :
    MetFree l (⟨"com/example/proxysmith/proxysmith/ClassFileWriter$Bytes", "toByteArray", "()[B"⟩ : MethodName) (head1 (Jvm.Cond.code (⟨"com/example/proxysmith/proxysmith/ClassFileWriter$Bytes", "toByteArray", "()[B"⟩ : MethodName) prog_13_method_10_code 1 (some (.array .byte)) :: ws) ({ frames := 2, cells := 1, slots := 12, locals := 54 } : Room)) (fun a U => a = #[(.ref a1)] ∧ Z.Warmed39 U.vm ∧ U.heap = h0) (fun _ _ _ _ _ => True) (fun _ U o U' => ∃ v L, o = .returned v ∧ Q11 Z a1 b n sz f h0 n0 v U'.heap L ∧ FrameEnd U o U' L ({ frames := 2, cells := 1, slots := 12, locals := 54 } : Room).cells ({ frames := 2, cells := 1, slots := 12, locals := 54 } : Room).slots) := by
  refine MetFree.of_bodySF (plainFor_of_name pn_11) hisR ?_
  intro p e s m args below meth c s₁ Bd hml0 hP hK
  obtain ⟨rfl, hZ, hh⟩ := hP
  have hx := Bd.exec
  have hby := Bd.bytes
  have hlk := Bd.notSynchronized
  have hml : c.maxLocals = 1 := hml0
  have hown : s.vm.findClass "com/example/proxysmith/proxysmith/ClassFileWriter$Bytes" = some m.cls := findClass_of_methodNamed Bd.named
  have hnm := (name_of_methodNamed Bd.named Bd.method).1
  have X0 : Stand p l e ({ frames := 2, cells := 1, slots := 12, locals := 54 } : Room) s m #[(.ref a1)] below meth c s₁ [] 0 0 := Stand.of_body Bd
  have e0 : s₁.heap = h0 := by rw [← hh, Bd.state]; rfl
  have N0 := Fr.nil n0
  have K0 : Keep h0 h0 [] := Keep.refl h0 _
  show Goes p e below s ({ frames := 2, cells := 1, slots := 12, locals := 54 } : Room).cells ({ frames := 2, cells := 1, slots := 12, locals := 54 } : Room).slots (Q11 Z a1 b n sz f h0 n0) s₁ (entryFrame m #[(.ref a1)] 1)
  refine Goes.step (fun t k => castTop (ef_11 m a1) k) ?_
  refine Goes.step (fun _ k => XS.aloadN X0.here hx rfl (hb hby d11_0) rfl rfl k) ?_
  show Goes p e below s _ _ _ s₁ (mkF m 1 #[.val (.ref a1)] [(.ref a1)])
  obtain ⟨T1, X1, e1, st1⟩ := getF X0 hx hZ hown (host := "") (Or.inl (hw _ (List.mem_of_getElem? (i := 27) rfl))) Via.refl e0 F_a1_size_0 (g := (mkF m 1 #[.val (.ref a1)] [(.ref a1)])) rfl rfl (hb hby d11_1)
  refine Goes.step st1 ?_
  show Goes p e below s _ _ _ T1 (mkF m 4 #[.val (.ref a1)] [(.int (Int32.ofNat sz))])
  refine Goes.step (fun _ k => XS.aloadN X1.here hx rfl (hb hby d11_4) rfl rfl k) ?_
  show Goes p e below s _ _ _ T1 (mkF m 5 #[.val (.ref a1)] [(.ref a1), (.int (Int32.ofNat sz))])
  obtain ⟨T2, X2, e2, st2⟩ := getF X1 hx hZ hown (host := "") (Or.inl (hw _ (List.mem_of_getElem? (i := 11) rfl))) Via.refl e1 F_a1_bytes_0 (g := (mkF m 5 #[.val (.ref a1)] [(.ref a1), (.int (Int32.ofNat sz))])) rfl rfl (hb hby d11_5)
  refine Goes.step st2 ?_
  show Goes p e below s _ _ _ T2 (mkF m 8 #[.val (.ref a1)] [(.ref b), (.int (Int32.ofNat sz))])
  refine Goes.step (fun _ k => rdL X2 hx hZ e2 A_b_0 (g := (mkF m 8 #[.val (.ref a1)] [(.ref b), (.int (Int32.ofNat sz))])) rfl rfl (hb hby d11_8) _ k) ?_
  show Goes p e below s _ _ _ T2 (mkF m 9 #[.val (.ref a1)] [(.int (Int32.ofNat n)), (.int (Int32.ofNat sz))])
  by_cases hc9 : (Int32.ofNat sz) = (Int32.ofNat n)
  · refine Goes.step (fun _ k => XS.icmpNo X2.here hx rfl (hb hby d11_9) rfl (teq hc9).2 k) ?_
    show Goes p e below s _ _ _ T2 (mkF m 12 #[.val (.ref a1)] [])
    refine Goes.step (fun _ k => XS.aloadN X2.here hx rfl (hb hby d11_12) rfl rfl k) ?_
    show Goes p e below s _ _ _ T2 (mkF m 13 #[.val (.ref a1)] [(.ref a1)])
    obtain ⟨T3, X3, e3, st3⟩ := getF X2 hx hZ hown (host := "") (Or.inl (hw _ (List.mem_of_getElem? (i := 11) rfl))) Via.refl e2 F_a1_bytes_0 (g := (mkF m 13 #[.val (.ref a1)] [(.ref a1)])) rfl rfl (hb hby d11_13)
    refine Goes.step st3 ?_
    show Goes p e below s _ _ _ T3 (mkF m 16 #[.val (.ref a1)] [(.ref b)])
    refine Goes.step (fun _ k => XS.goto X3.here hx rfl (pc0 := 16) (pc' := 30) rfl (hb hby d11_16) (by decide) (by decide) k) ?_
    show Goes p e below s _ _ _ T3 (mkF m 30 #[.val (.ref a1)] [(.ref b)])
    exact Goes.outR X3 hx hlk Bd.returns rfl rfl (hb hby d11_30) (by rw [e3]; exact ⟨b, rfl, N0, K0, f, own_ari hc9 (by omega) (by omega) A_b_0, fun _ _ => rfl⟩) (by decide) (by decide)
  · refine Goes.step (fun _ k => XS.icmpYes X2.here hx rfl (pc0 := 9) (pc' := 19) rfl (hb hby d11_9) rfl (feq hc9).2 (by decide) (by decide) k) ?_
    show Goes p e below s _ _ _ T2 (mkF m 19 #[.val (.ref a1)] [])
    refine Goes.step (fun _ k => XS.aloadN X2.here hx rfl (hb hby d11_19) rfl rfl k) ?_
    show Goes p e below s _ _ _ T2 (mkF m 20 #[.val (.ref a1)] [(.ref a1)])
    obtain ⟨T4, X4, e4, st4⟩ := getF X2 hx hZ hown (host := "") (Or.inl (hw _ (List.mem_of_getElem? (i := 11) rfl))) Via.refl e2 F_a1_bytes_0 (g := (mkF m 20 #[.val (.ref a1)] [(.ref a1)])) rfl rfl (hb hby d11_20)
    refine Goes.step st4 ?_
    show Goes p e below s _ _ _ T4 (mkF m 23 #[.val (.ref a1)] [(.ref b)])
    refine Goes.step (fun _ k => XS.aloadN X4.here hx rfl (hb hby d11_23) rfl rfl k) ?_
    show Goes p e below s _ _ _ T4 (mkF m 24 #[.val (.ref a1)] [(.ref a1), (.ref b)])
    obtain ⟨T5, X5, e5, st5⟩ := getF X4 hx hZ hown (host := "") (Or.inl (hw _ (List.mem_of_getElem? (i := 27) rfl))) Via.refl e4 F_a1_size_0 (g := (mkF m 24 #[.val (.ref a1)] [(.ref a1), (.ref b)])) rfl rfl (hb hby d11_24)
    refine Goes.step st5 ?_
    show Goes p e below s _ _ _ T5 (mkF m 27 #[.val (.ref a1)] [(.int (Int32.ofNat sz)), (.ref b)])
    obtain ⟨v6, T6, h6, L6, X6, e6, Q6, st6⟩ := callX X5 hx hZ (y := (⟨"java/util/Arrays", "copyOf", "([BI)[B"⟩ : MethodName)) hown (hw _ (List.mem_of_getElem? (i := 33) rfl)) (hw _ (List.mem_of_getElem? (i := 34) rfl)) (hw _ (List.mem_of_getElem? (i := 35) rfl)) (hw _ (List.mem_of_getElem? (i := 36) rfl)) (by decide) (W := 0) (argsL := [(.ref b), (.int (Int32.ofNat sz))]) (rest := []) (rm7 l Z a0 hw [] b sz n f h0 n0 Z0 A_b_0 (fun q => hc9 (by rw [q])) (by omega) hmx) (by decide) (by decide) (by decide) (by decide) e5 (g := (mkF m 27 #[.val (.ref a1)] [(.int (Int32.ofNat sz)), (.ref b)])) rfl (by rw [hml]; rfl) (lenOf pd_11_0 rfl) rfl (by show 2 * 0 + _ ≤ _; exact Nat.le_of_eq rfl) (hb hby d11_27)
    obtain ⟨o6, rfl, NQ6, KQ6, so6, Ao6⟩ := Q6
    refine Goes.step st6 ?_
    have E_a1_6 := E_a1_0.keep KQ6
    have F_a1_bytes_6 := F_a1_bytes_0.keep KQ6 nin0
    have F_a1_size_6 := F_a1_size_0.keep KQ6 nin0
    have A_b_6 := A_b_0.keep KQ6 nin0
    have z_6 : n0 ≤ h6.size := Nat.le_trans Z0 KQ6.1
    have K_6 : Keep h0 h6 [] := Keep.trans K0 KQ6 all0
    have N_6 := Fr.app N0 NQ6
    have ne_a1_o6 : a1 ≠ o6 := Nat.ne_of_lt (Nat.lt_of_lt_of_le E_a1_0.lt so6)
    have ne_b_o6 : b ≠ o6 := Nat.ne_of_lt (Nat.lt_of_lt_of_le A_b_0.lt so6)
    have ge_o6 : n0 ≤ o6 := Nat.le_trans Z0 so6
    show Goes p e below s _ _ _ T6 (mkF m 30 #[.val (.ref a1)] [(.ref o6)])
    exact Goes.outR X6 hx hlk Bd.returns rfl rfl (hb hby d11_30) (by rw [e6]; exact ⟨o6, rfl, N_6, K_6, _, Ao6, own_keepf f hsn⟩) (by decide) (by decide)
theorem d1_0 : decode prog_13_method_1_code 0 = .ok (.aload_n 0, 1) := by decide +kernel
theorem d1_1 : decode prog_13_method_1_code 1 = .ok (.invokespecial 3, 3) := by decide +kernel
theorem d1_4 : decode prog_13_method_1_code 4 = .ok (.aload_n 0, 1) := by decide +kernel
theorem d1_5 : decode prog_13_method_1_code 5 = .ok (.iload_n 1, 1) := by decide +kernel
theorem d1_6 : decode prog_13_method_1_code 6 = .ok (.newarray .byte, 2) := by decide +kernel
theorem d1_8 : decode prog_13_method_1_code 8 = .ok (.putfield 9, 3) := by decide +kernel
theorem d1_11 : decode prog_13_method_1_code 11 = .ok (.return_, 1) := by decide +kernel
theorem pn_1 : plainName "com/example/proxysmith/proxysmith/ClassFileWriter$Bytes" = true := by first | (simp [plainName, overriddenIn]; done) | decide +kernel
theorem ef_1 (m : MethodId) (a1 : Addr) : entryFrame m #[(.ref a1), (.int (Int32.ofNat n))] 2 = mkF m 0 #[.val (.ref a1), .val (.int (Int32.ofNat n))] [] := by first | (simp [entryFrame, mkF, argsToLocals, Value.category]; done) | rfl
def Q1 (Z : State) (a1 : Addr) (n : Nat) (h0 : Heap) (n0 : Nat) (v : Option Value) (h : Heap) (L : List Loc) : Prop := ∃ b, v = none ∧ Fr n0 L ∧ Keep h0 h [a1] ∧ Exa Z h a1 "com/example/proxysmith/proxysmith/ClassFileWriter$Bytes" ∧ Fld Z h a1 "com/example/proxysmith/proxysmith/ClassFileWriter$Bytes" "bytes" "[B" (.ref b) ∧ Fld Z h a1 "com/example/proxysmith/proxysmith/ClassFileWriter$Bytes" "size" "I" (.int (Int32.ofNat 0)) ∧ Ari Z h b .byte n (fun _ => 0) ∧ a1 ≠ b ∧ n0 ≤ b ∧ h0.size ≤ b
set_option maxRecDepth 65536 in
set_option maxHeartbeats 40000000 in
theorem rm1 (l : Launch) (Z : State) (a0 : Array Value) (hw : ∀ d ∈ tables_1, d.before a0 Z = true) (ws : List Jvm.Cond) (a1 : Addr) (n : Nat) (h0 : Heap) (n0 : Nat) (Z0 : n0 ≤ h0.size) (E_a1_0 : Exa Z h0 a1 "com/example/proxysmith/proxysmith/ClassFileWriter$Bytes") (F_a1_bytes_0 : Fld Z h0 a1 "com/example/proxysmith/proxysmith/ClassFileWriter$Bytes" "bytes" "[B" .null) (F_a1_size_0 : Fld Z h0 a1 "com/example/proxysmith/proxysmith/ClassFileWriter$Bytes" "size" "I" (.int (0 : Int32))) (ge_a1 : n0 ≤ a1) (hn : n ≤ 16) :
    MetFree l (⟨"com/example/proxysmith/proxysmith/ClassFileWriter$Bytes", "<init>", "(I)V"⟩ : MethodName) (head1 (Jvm.Cond.code (⟨"com/example/proxysmith/proxysmith/ClassFileWriter$Bytes", "<init>", "(I)V"⟩ : MethodName) prog_13_method_1_code 2 none :: ws) ({ frames := 1, cells := 1, slots := 16, locals := 12 } : Room)) (fun a U => a = #[(.ref a1), (.int (Int32.ofNat n))] ∧ Z.Warmed39 U.vm ∧ U.heap = h0) (fun _ _ _ _ _ => True) (fun _ U o U' => ∃ v L, o = .returned v ∧ Q1 Z a1 n h0 n0 v U'.heap L ∧ FrameEnd U o U' L ({ frames := 1, cells := 1, slots := 16, locals := 12 } : Room).cells ({ frames := 1, cells := 1, slots := 16, locals := 12 } : Room).slots) := by
  refine MetFree.of_bodySF (plainFor_of_name pn_1) hisR ?_
  intro p e s m args below meth c s₁ Bd hml0 hP hK
  obtain ⟨rfl, hZ, hh⟩ := hP
  have hx := Bd.exec
  have hby := Bd.bytes
  have hlk := Bd.notSynchronized
  have hml : c.maxLocals = 2 := hml0
  have hown : s.vm.findClass "com/example/proxysmith/proxysmith/ClassFileWriter$Bytes" = some m.cls := findClass_of_methodNamed Bd.named
  have hnm := (name_of_methodNamed Bd.named Bd.method).1
  have X0 : Stand p l e ({ frames := 1, cells := 1, slots := 16, locals := 12 } : Room) s m #[(.ref a1), (.int (Int32.ofNat n))] below meth c s₁ [] 0 0 := Stand.of_body Bd
  have e0 : s₁.heap = h0 := by rw [← hh, Bd.state]; rfl
  have N0 := Fr.nil n0
  have K0 : Keep h0 h0 [a1] := Keep.refl h0 _
  show Goes p e below s ({ frames := 1, cells := 1, slots := 16, locals := 12 } : Room).cells ({ frames := 1, cells := 1, slots := 16, locals := 12 } : Room).slots (Q1 Z a1 n h0 n0) s₁ (entryFrame m #[(.ref a1), (.int (Int32.ofNat n))] 2)
  refine Goes.step (fun t k => castTop (ef_1 m a1) k) ?_
  refine Goes.step (fun _ k => XS.aloadN X0.here hx rfl (hb hby d1_0) rfl rfl k) ?_
  show Goes p e below s _ _ _ s₁ (mkF m 1 #[.val (.ref a1), .val (.int (Int32.ofNat n))] [(.ref a1)])
  obtain ⟨T1, X1, e1, st1⟩ := initO X0 hx hZ hown (hw _ (List.mem_of_getElem? (i := 7) rfl)) (hw _ (List.mem_of_getElem? (i := 8) rfl)) (hw _ (List.mem_of_getElem? (i := 9) rfl)) e0 (g := (mkF m 1 #[.val (.ref a1), .val (.int (Int32.ofNat n))] [(.ref a1)])) rfl (by rw [hml]; rfl) rfl (hb hby d1_1) (by decide) (W := 0) (by show 2 * 0 + _ ≤ _; exact Nat.le_of_eq rfl) (by decide)
  refine Goes.step st1 ?_
  show Goes p e below s _ _ _ T1 (mkF m 4 #[.val (.ref a1), .val (.int (Int32.ofNat n))] [])
  refine Goes.step (fun _ k => XS.aloadN X1.here hx rfl (hb hby d1_4) rfl rfl k) ?_
  show Goes p e below s _ _ _ T1 (mkF m 5 #[.val (.ref a1), .val (.int (Int32.ofNat n))] [(.ref a1)])
  refine Goes.step (fun _ k => XS.iloadN X1.here hx rfl (hb hby d1_5) rfl k) ?_
  show Goes p e below s _ _ _ T1 (mkF m 6 #[.val (.ref a1), .val (.int (Int32.ofNat n))] [(.int (Int32.ofNat n)), (.ref a1)])
  obtain ⟨T2, h2, X2, e2, E2, A2, st2⟩ := newI X1 hx hZ (hw _ (List.mem_of_getElem? (i := 10) rfl)) e1 (g := (mkF m 6 #[.val (.ref a1), .val (.int (Int32.ofNat n))] [(.int (Int32.ofNat n)), (.ref a1)])) rfl (hb hby d1_6) rfl (N := n) rfl (cap := 16) hn (by decide) (by decide) (by decide) rfl (by decide)
  obtain ⟨b2, g_2⟩ : ∃ z, z = h0.size := ⟨_, rfl⟩
  rw [← g_2] at A2 st2
  refine Goes.step st2 ?_
  have ne_a1_b2 : a1 ≠ b2 := Nat.ne_of_lt (by rw [g_2]; exact E_a1_0.lt)
  have ge_b2 : n0 ≤ b2 := by rw [g_2]; exact Z0
  have sz_b2 : h0.size ≤ b2 := by rw [g_2]; exact K0.1
  have E_a1_2 := E_a1_0.ext E2
  have F_a1_bytes_2 := F_a1_bytes_0.ext E2
  have F_a1_size_2 := F_a1_size_0.ext E2
  have z_2 : n0 ≤ h2.size := Nat.le_trans Z0 E2.1
  have K_2 : Keep h0 h2 [a1] := K0.ext E2
  have A_b2_2 : Ari Z h2 b2 .byte (n) (fun _ => 0) := A2
  show Goes p e below s _ _ _ T2 (mkF m 8 #[.val (.ref a1), .val (.int (Int32.ofNat n))] [(.ref b2), (.ref a1)])
  obtain ⟨T3, h3, X3, e3, W3, st3⟩ := putF X2 hx hZ hown (host := "") (Or.inl (hw _ (List.mem_of_getElem? (i := 11) rfl))) Via.refl e2 F_a1_bytes_2 E_a1_2 (Or.inl (hw _ (List.mem_of_getElem? (i := 12) rfl))) (hw _ (List.mem_of_getElem? (i := 2) rfl)) (ty := (.array .byte)) (by decide) rfl rfl (g := (mkF m 8 #[.val (.ref a1), .val (.int (Int32.ofNat n))] [(.ref b2), (.ref a1)])) rfl rfl (hb hby d1_8)
  refine Goes.step st3 ?_
  have E_a1_3 := E_a1_2.wr W3
  have F_a1_size_3 := F_a1_size_2.other W3 (Or.inr (slot_ne (Or.inl (hw _ (List.mem_of_getElem? (i := 28) rfl))) (Or.inl (hw _ (List.mem_of_getElem? (i := 12) rfl))) (by decide) (t := .int) (t' := (.array .byte)) (by decide) (by decide)))
  have A_b2_3 := A_b2_2.other W3 (Ne.symm ne_a1_b2)
  have z_3 : n0 ≤ h3.size := by rw [W3.size]; exact z_2
  have K_3 : Keep h0 h3 [a1] := K_2.wr W3 (Or.inl (List.mem_of_getElem? (i := 0) rfl))
  have N_3 := Fr.snoc X3 N0 ge_a1
  have F_a1_bytes_3 : Fld Z h3 a1 "com/example/proxysmith/proxysmith/ClassFileWriter$Bytes" "bytes" "[B" (.ref b2) := F_a1_bytes_2.same W3
  show Goes p e below s _ _ _ T3 (mkF m 11 #[.val (.ref a1), .val (.int (Int32.ofNat n))] [])
  exact Goes.outV X3 hx hlk Bd.returns (hb hby d1_11) (by rw [e3]; exact ⟨b2, rfl, N_3, K_3, E_a1_3, F_a1_bytes_3, F_a1_size_3, A_b2_3, ne_a1_b2, ge_b2, sz_b2⟩) (by decide) (by decide)
theorem d12_0 : decode method_2_code 0 = .ok (.iload_n 0, 1) := by decide +kernel
theorem d12_1 : decode method_2_code 1 = .ok (.iload_n 1, 1) := by decide +kernel
theorem d12_2 : decode method_2_code 2 = .ok (.if_icmp .ne 11, 3) := by decide +kernel
theorem d12_5 : decode method_2_code 5 = .ok (.iload_n 2, 1) := by decide +kernel
theorem d12_6 : decode method_2_code 6 = .ok (.ldc 7, 2) := by decide +kernel
theorem d12_8 : decode method_2_code 8 = .ok (.iand, 1) := by decide +kernel
theorem d12_9 : decode method_2_code 9 = .ok (.bipush 8, 2) := by decide +kernel
theorem d12_11 : decode method_2_code 11 = .ok (.ishr, 1) := by decide +kernel
theorem d12_12 : decode method_2_code 12 = .ok (.ireturn, 1) := by decide +kernel
theorem d12_13 : decode method_2_code 13 = .ok (.iload_n 0, 1) := by decide +kernel
theorem d12_14 : decode method_2_code 14 = .ok (.iload_n 1, 1) := by decide +kernel
theorem d12_15 : decode method_2_code 15 = .ok (.iconst 1, 1) := by decide +kernel
theorem d12_16 : decode method_2_code 16 = .ok (.iadd, 1) := by decide +kernel
theorem d12_17 : decode method_2_code 17 = .ok (.if_icmp .ne 9, 3) := by decide +kernel
theorem d12_20 : decode method_2_code 20 = .ok (.iload_n 2, 1) := by decide +kernel
theorem d12_21 : decode method_2_code 21 = .ok (.sipush 255, 3) := by decide +kernel
theorem d12_24 : decode method_2_code 24 = .ok (.iand, 1) := by decide +kernel
theorem d12_25 : decode method_2_code 25 = .ok (.ireturn, 1) := by decide +kernel
theorem d12_26 : decode method_2_code 26 = .ok (.iload_n 0, 1) := by decide +kernel
theorem d12_27 : decode method_2_code 27 = .ok (.iconst 4, 1) := by decide +kernel
theorem d12_28 : decode method_2_code 28 = .ok (.if_icmp .ge 17, 3) := by decide +kernel
theorem d12_31 : decode method_2_code 31 = .ok (.iload_n 3, 1) := by decide +kernel
theorem d12_32 : decode method_2_code 32 = .ok (.bipush 24, 2) := by decide +kernel
theorem d12_34 : decode method_2_code 34 = .ok (.bipush 8, 2) := by decide +kernel
theorem d12_36 : decode method_2_code 36 = .ok (.iload_n 0, 1) := by decide +kernel
theorem d12_37 : decode method_2_code 37 = .ok (.imul, 1) := by decide +kernel
theorem d12_38 : decode method_2_code 38 = .ok (.isub, 1) := by decide +kernel
theorem d12_39 : decode method_2_code 39 = .ok (.ishr, 1) := by decide +kernel
theorem d12_40 : decode method_2_code 40 = .ok (.sipush 255, 3) := by decide +kernel
theorem d12_43 : decode method_2_code 43 = .ok (.iand, 1) := by decide +kernel
theorem d12_44 : decode method_2_code 44 = .ok (.ireturn, 1) := by decide +kernel
theorem d12_45 : decode method_2_code 45 = .ok (.iload 4, 2) := by decide +kernel
theorem d12_47 : decode method_2_code 47 = .ok (.bipush 8, 2) := by decide +kernel
theorem d12_49 : decode method_2_code 49 = .ok (.iconst 5, 1) := by decide +kernel
theorem d12_50 : decode method_2_code 50 = .ok (.iload_n 0, 1) := by decide +kernel
theorem d12_51 : decode method_2_code 51 = .ok (.isub, 1) := by decide +kernel
theorem d12_52 : decode method_2_code 52 = .ok (.imul, 1) := by decide +kernel
theorem d12_53 : decode method_2_code 53 = .ok (.ishr, 1) := by decide +kernel
theorem d12_54 : decode method_2_code 54 = .ok (.sipush 255, 3) := by decide +kernel
theorem d12_57 : decode method_2_code 57 = .ok (.iand, 1) := by decide +kernel
theorem d12_58 : decode method_2_code 58 = .ok (.ireturn, 1) := by decide +kernel
theorem pn_12 : plainName "com/example/proxysmith/proxysmith/BytesU2AtPinLaw" = true := by first | (simp [plainName, overriddenIn]; done) | decide +kernel
theorem ef_12 (m : MethodId) (p1 : Int32) (p2 : Int32) (p3 : Int32) (p4 : Int32) (p5 : Int32) : entryFrame m #[(.int p1), (.int p2), (.int p3), (.int p4), (.int p5)] 5 = mkF m 0 #[.val (.int p1), .val (.int p2), .val (.int p3), .val (.int p4), .val (.int p5)] [] := by first | (simp [entryFrame, mkF, argsToLocals, Value.category]; done) | rfl
def f12 (p1 : Int32) (p2 : Int32) (p3 : Int32) (p4 : Int32) (p5 : Int32) : Int32 := (if (p1 = p2) then ((p3 &&& (65280 : Int32)) >>> ((8 : Int32) &&& 31)) else (if (p1 = (p2 + (1 : Int32))) then (p3 &&& (255 : Int32)) else (if (p1 < (4 : Int32)) then ((p4 >>> (((24 : Int32) - ((8 : Int32) * p1)) &&& 31)) &&& (255 : Int32)) else ((p5 >>> (((8 : Int32) * ((5 : Int32) - p1)) &&& 31)) &&& (255 : Int32)))))
set_option maxRecDepth 65536 in
set_option maxHeartbeats 40000000 in
theorem rm12 (l : Launch) (Z : State) (a0 : Array Value) (hw : ∀ d ∈ tables_1, d.before a0 Z = true) (ws : List Jvm.Cond) (p1 : Int32) (p2 : Int32) (p3 : Int32) (p4 : Int32) (p5 : Int32) (h0 : Heap)  :
    MetFree l (⟨"com/example/proxysmith/proxysmith/BytesU2AtPinLaw", "expect", "(IIIII)I"⟩ : MethodName) (head1 (Jvm.Cond.code (⟨"com/example/proxysmith/proxysmith/BytesU2AtPinLaw", "expect", "(IIIII)I"⟩ : MethodName) method_2_code 5 (some .int) :: ws) ({ frames := 0, cells := 0, slots := 0, locals := 0 } : Room)) (fun a U => a = #[(.int p1), (.int p2), (.int p3), (.int p4), (.int p5)] ∧ Z.Warmed39 U.vm ∧ U.heap = h0) (fun _ _ _ _ _ => True) (fun _ U o U' => ∃ v L, o = .returned v ∧ PI h0 (f12 p1 p2 p3 p4 p5) v U'.heap L ∧ FrameEnd U o U' L ({ frames := 0, cells := 0, slots := 0, locals := 0 } : Room).cells ({ frames := 0, cells := 0, slots := 0, locals := 0 } : Room).slots) := by
  refine MetFree.of_bodySF (plainFor_of_name pn_12) hisR ?_
  intro p e s m args below meth c s₁ Bd hml0 hP hK
  obtain ⟨rfl, hZ, hh⟩ := hP
  have hx := Bd.exec
  have hby := Bd.bytes
  have hlk := Bd.notSynchronized
  have hml : c.maxLocals = 5 := hml0
  have hown : s.vm.findClass "com/example/proxysmith/proxysmith/BytesU2AtPinLaw" = some m.cls := findClass_of_methodNamed Bd.named
  have X0 : Stand p l e ({ frames := 0, cells := 0, slots := 0, locals := 0 } : Room) s m #[(.int p1), (.int p2), (.int p3), (.int p4), (.int p5)] below meth c s₁ [] 0 0 := Stand.of_body Bd
  have e0 : s₁.heap = h0 := by rw [← hh, Bd.state]; rfl
  show Goes p e below s ({ frames := 0, cells := 0, slots := 0, locals := 0 } : Room).cells ({ frames := 0, cells := 0, slots := 0, locals := 0 } : Room).slots (PI h0 (f12 p1 p2 p3 p4 p5)) s₁ (entryFrame m #[(.int p1), (.int p2), (.int p3), (.int p4), (.int p5)] 5)
  refine Goes.step (fun t k => castTop (ef_12 m p1 p2 p3 p4 p5) k) ?_
  refine Goes.step (fun _ k => XS.iloadN X0.here hx rfl (hb hby d12_0) rfl k) ?_
  show Goes p e below s _ _ _ s₁ (mkF m 1 #[.val (.int p1), .val (.int p2), .val (.int p3), .val (.int p4), .val (.int p5)] [(.int p1)])
  refine Goes.step (fun _ k => XS.iloadN X0.here hx rfl (hb hby d12_1) rfl k) ?_
  show Goes p e below s _ _ _ s₁ (mkF m 2 #[.val (.int p1), .val (.int p2), .val (.int p3), .val (.int p4), .val (.int p5)] [(.int p2), (.int p1)])
  refine Goes.ite (Q := PI h0) (fun hc2 => ?_) (fun hc2 => ?_)
  · refine Goes.step (fun _ k => XS.icmpNo X0.here hx rfl (hb hby d12_2) rfl (teq hc2).2 k) ?_
    show Goes p e below s _ _ _ s₁ (mkF m 5 #[.val (.int p1), .val (.int p2), .val (.int p3), .val (.int p4), .val (.int p5)] [])
    refine Goes.step (fun _ k => XS.iloadN X0.here hx rfl (hb hby d12_5) rfl k) ?_
    show Goes p e below s _ _ _ s₁ (mkF m 6 #[.val (.int p1), .val (.int p2), .val (.int p3), .val (.int p4), .val (.int p5)] [(.int p3)])
    refine Goes.step (fun _ k => X0.ldcInt hx hown (mvT hZ (hw _ (List.mem_of_getElem? (i := 64) rfl))) (g := (mkF m 6 #[.val (.int p1), .val (.int p2), .val (.int p3), .val (.int p4), .val (.int p5)] [(.int p3)])) rfl (hb hby d12_6) _ k) ?_
    show Goes p e below s _ _ _ s₁ (mkF m 8 #[.val (.int p1), .val (.int p2), .val (.int p3), .val (.int p4), .val (.int p5)] [(.int (65280 : Int32)), (.int p3)])
    refine Goes.step (fun _ k => XS.iand X0.here hx rfl (hb hby d12_8) rfl k) ?_
    show Goes p e below s _ _ _ s₁ (mkF m 9 #[.val (.int p1), .val (.int p2), .val (.int p3), .val (.int p4), .val (.int p5)] [(.int (p3 &&& (65280 : Int32)))])
    refine Goes.step (fun _ k => XS.bipush X0.here hx rfl (hb hby d12_9) k) ?_
    show Goes p e below s _ _ _ s₁ (mkF m 11 #[.val (.int p1), .val (.int p2), .val (.int p3), .val (.int p4), .val (.int p5)] [(.int (8 : Int32)), (.int (p3 &&& (65280 : Int32)))])
    refine Goes.step (fun _ k => XS.ishr X0.here hx rfl (hb hby d12_11) rfl k) ?_
    show Goes p e below s _ _ _ s₁ (mkF m 12 #[.val (.int p1), .val (.int p2), .val (.int p3), .val (.int p4), .val (.int p5)] [(.int ((p3 &&& (65280 : Int32)) >>> ((8 : Int32) &&& 31)))])
    exact Goes.outI X0 hx hlk Bd.returns (hb hby d12_12) ⟨rfl, rfl, e0⟩ (by decide) (by decide)
  · refine Goes.step (fun _ k => XS.icmpYes X0.here hx rfl (pc0 := 2) (pc' := 13) rfl (hb hby d12_2) rfl (feq hc2).2 (by decide) (by decide) k) ?_
    show Goes p e below s _ _ _ s₁ (mkF m 13 #[.val (.int p1), .val (.int p2), .val (.int p3), .val (.int p4), .val (.int p5)] [])
    refine Goes.step (fun _ k => XS.iloadN X0.here hx rfl (hb hby d12_13) rfl k) ?_
    show Goes p e below s _ _ _ s₁ (mkF m 14 #[.val (.int p1), .val (.int p2), .val (.int p3), .val (.int p4), .val (.int p5)] [(.int p1)])
    refine Goes.step (fun _ k => XS.iloadN X0.here hx rfl (hb hby d12_14) rfl k) ?_
    show Goes p e below s _ _ _ s₁ (mkF m 15 #[.val (.int p1), .val (.int p2), .val (.int p3), .val (.int p4), .val (.int p5)] [(.int p2), (.int p1)])
    refine Goes.step (fun _ k => XS.iconst X0.here hx rfl (hb hby d12_15) k) ?_
    show Goes p e below s _ _ _ s₁ (mkF m 16 #[.val (.int p1), .val (.int p2), .val (.int p3), .val (.int p4), .val (.int p5)] [(.int (1 : Int32)), (.int p2), (.int p1)])
    refine Goes.step (fun _ k => XS.iadd X0.here hx rfl (hb hby d12_16) rfl k) ?_
    show Goes p e below s _ _ _ s₁ (mkF m 17 #[.val (.int p1), .val (.int p2), .val (.int p3), .val (.int p4), .val (.int p5)] [(.int (p2 + (1 : Int32))), (.int p1)])
    refine Goes.ite (Q := PI h0) (fun hc17 => ?_) (fun hc17 => ?_)
    · refine Goes.step (fun _ k => XS.icmpNo X0.here hx rfl (hb hby d12_17) rfl (teq hc17).2 k) ?_
      show Goes p e below s _ _ _ s₁ (mkF m 20 #[.val (.int p1), .val (.int p2), .val (.int p3), .val (.int p4), .val (.int p5)] [])
      refine Goes.step (fun _ k => XS.iloadN X0.here hx rfl (hb hby d12_20) rfl k) ?_
      show Goes p e below s _ _ _ s₁ (mkF m 21 #[.val (.int p1), .val (.int p2), .val (.int p3), .val (.int p4), .val (.int p5)] [(.int p3)])
      refine Goes.step (fun _ k => XS.sipush X0.here hx rfl (hb hby d12_21) k) ?_
      show Goes p e below s _ _ _ s₁ (mkF m 24 #[.val (.int p1), .val (.int p2), .val (.int p3), .val (.int p4), .val (.int p5)] [(.int (255 : Int32)), (.int p3)])
      refine Goes.step (fun _ k => XS.iand X0.here hx rfl (hb hby d12_24) rfl k) ?_
      show Goes p e below s _ _ _ s₁ (mkF m 25 #[.val (.int p1), .val (.int p2), .val (.int p3), .val (.int p4), .val (.int p5)] [(.int (p3 &&& (255 : Int32)))])
      exact Goes.outI X0 hx hlk Bd.returns (hb hby d12_25) ⟨rfl, rfl, e0⟩ (by decide) (by decide)
    · refine Goes.step (fun _ k => XS.icmpYes X0.here hx rfl (pc0 := 17) (pc' := 26) rfl (hb hby d12_17) rfl (feq hc17).2 (by decide) (by decide) k) ?_
      show Goes p e below s _ _ _ s₁ (mkF m 26 #[.val (.int p1), .val (.int p2), .val (.int p3), .val (.int p4), .val (.int p5)] [])
      refine Goes.step (fun _ k => XS.iloadN X0.here hx rfl (hb hby d12_26) rfl k) ?_
      show Goes p e below s _ _ _ s₁ (mkF m 27 #[.val (.int p1), .val (.int p2), .val (.int p3), .val (.int p4), .val (.int p5)] [(.int p1)])
      refine Goes.step (fun _ k => XS.iconst X0.here hx rfl (hb hby d12_27) k) ?_
      show Goes p e below s _ _ _ s₁ (mkF m 28 #[.val (.int p1), .val (.int p2), .val (.int p3), .val (.int p4), .val (.int p5)] [(.int (4 : Int32)), (.int p1)])
      refine Goes.ite (Q := PI h0) (fun hc28 => ?_) (fun hc28 => ?_)
      · refine Goes.step (fun _ k => XS.icmpNo X0.here hx rfl (hb hby d12_28) rfl (tlt hc28).2.1 k) ?_
        show Goes p e below s _ _ _ s₁ (mkF m 31 #[.val (.int p1), .val (.int p2), .val (.int p3), .val (.int p4), .val (.int p5)] [])
        refine Goes.step (fun _ k => XS.iloadN X0.here hx rfl (hb hby d12_31) rfl k) ?_
        show Goes p e below s _ _ _ s₁ (mkF m 32 #[.val (.int p1), .val (.int p2), .val (.int p3), .val (.int p4), .val (.int p5)] [(.int p4)])
        refine Goes.step (fun _ k => XS.bipush X0.here hx rfl (hb hby d12_32) k) ?_
        show Goes p e below s _ _ _ s₁ (mkF m 34 #[.val (.int p1), .val (.int p2), .val (.int p3), .val (.int p4), .val (.int p5)] [(.int (24 : Int32)), (.int p4)])
        refine Goes.step (fun _ k => XS.bipush X0.here hx rfl (hb hby d12_34) k) ?_
        show Goes p e below s _ _ _ s₁ (mkF m 36 #[.val (.int p1), .val (.int p2), .val (.int p3), .val (.int p4), .val (.int p5)] [(.int (8 : Int32)), (.int (24 : Int32)), (.int p4)])
        refine Goes.step (fun _ k => XS.iloadN X0.here hx rfl (hb hby d12_36) rfl k) ?_
        show Goes p e below s _ _ _ s₁ (mkF m 37 #[.val (.int p1), .val (.int p2), .val (.int p3), .val (.int p4), .val (.int p5)] [(.int p1), (.int (8 : Int32)), (.int (24 : Int32)), (.int p4)])
        refine Goes.step (fun _ k => XS.imul X0.here hx rfl (hb hby d12_37) rfl k) ?_
        show Goes p e below s _ _ _ s₁ (mkF m 38 #[.val (.int p1), .val (.int p2), .val (.int p3), .val (.int p4), .val (.int p5)] [(.int ((8 : Int32) * p1)), (.int (24 : Int32)), (.int p4)])
        refine Goes.step (fun _ k => XS.isub X0.here hx rfl (hb hby d12_38) rfl k) ?_
        show Goes p e below s _ _ _ s₁ (mkF m 39 #[.val (.int p1), .val (.int p2), .val (.int p3), .val (.int p4), .val (.int p5)] [(.int ((24 : Int32) - ((8 : Int32) * p1))), (.int p4)])
        refine Goes.step (fun _ k => XS.ishr X0.here hx rfl (hb hby d12_39) rfl k) ?_
        show Goes p e below s _ _ _ s₁ (mkF m 40 #[.val (.int p1), .val (.int p2), .val (.int p3), .val (.int p4), .val (.int p5)] [(.int (p4 >>> (((24 : Int32) - ((8 : Int32) * p1)) &&& 31)))])
        refine Goes.step (fun _ k => XS.sipush X0.here hx rfl (hb hby d12_40) k) ?_
        show Goes p e below s _ _ _ s₁ (mkF m 43 #[.val (.int p1), .val (.int p2), .val (.int p3), .val (.int p4), .val (.int p5)] [(.int (255 : Int32)), (.int (p4 >>> (((24 : Int32) - ((8 : Int32) * p1)) &&& 31)))])
        refine Goes.step (fun _ k => XS.iand X0.here hx rfl (hb hby d12_43) rfl k) ?_
        show Goes p e below s _ _ _ s₁ (mkF m 44 #[.val (.int p1), .val (.int p2), .val (.int p3), .val (.int p4), .val (.int p5)] [(.int ((p4 >>> (((24 : Int32) - ((8 : Int32) * p1)) &&& 31)) &&& (255 : Int32)))])
        exact Goes.outI X0 hx hlk Bd.returns (hb hby d12_44) ⟨rfl, rfl, e0⟩ (by decide) (by decide)
      · refine Goes.step (fun _ k => XS.icmpYes X0.here hx rfl (pc0 := 28) (pc' := 45) rfl (hb hby d12_28) rfl (flt hc28).2.1 (by decide) (by decide) k) ?_
        show Goes p e below s _ _ _ s₁ (mkF m 45 #[.val (.int p1), .val (.int p2), .val (.int p3), .val (.int p4), .val (.int p5)] [])
        refine Goes.step (fun _ k => XS.iload X0.here hx rfl (hb hby d12_45) rfl k) ?_
        show Goes p e below s _ _ _ s₁ (mkF m 47 #[.val (.int p1), .val (.int p2), .val (.int p3), .val (.int p4), .val (.int p5)] [(.int p5)])
        refine Goes.step (fun _ k => XS.bipush X0.here hx rfl (hb hby d12_47) k) ?_
        show Goes p e below s _ _ _ s₁ (mkF m 49 #[.val (.int p1), .val (.int p2), .val (.int p3), .val (.int p4), .val (.int p5)] [(.int (8 : Int32)), (.int p5)])
        refine Goes.step (fun _ k => XS.iconst X0.here hx rfl (hb hby d12_49) k) ?_
        show Goes p e below s _ _ _ s₁ (mkF m 50 #[.val (.int p1), .val (.int p2), .val (.int p3), .val (.int p4), .val (.int p5)] [(.int (5 : Int32)), (.int (8 : Int32)), (.int p5)])
        refine Goes.step (fun _ k => XS.iloadN X0.here hx rfl (hb hby d12_50) rfl k) ?_
        show Goes p e below s _ _ _ s₁ (mkF m 51 #[.val (.int p1), .val (.int p2), .val (.int p3), .val (.int p4), .val (.int p5)] [(.int p1), (.int (5 : Int32)), (.int (8 : Int32)), (.int p5)])
        refine Goes.step (fun _ k => XS.isub X0.here hx rfl (hb hby d12_51) rfl k) ?_
        show Goes p e below s _ _ _ s₁ (mkF m 52 #[.val (.int p1), .val (.int p2), .val (.int p3), .val (.int p4), .val (.int p5)] [(.int ((5 : Int32) - p1)), (.int (8 : Int32)), (.int p5)])
        refine Goes.step (fun _ k => XS.imul X0.here hx rfl (hb hby d12_52) rfl k) ?_
        show Goes p e below s _ _ _ s₁ (mkF m 53 #[.val (.int p1), .val (.int p2), .val (.int p3), .val (.int p4), .val (.int p5)] [(.int ((8 : Int32) * ((5 : Int32) - p1))), (.int p5)])
        refine Goes.step (fun _ k => XS.ishr X0.here hx rfl (hb hby d12_53) rfl k) ?_
        show Goes p e below s _ _ _ s₁ (mkF m 54 #[.val (.int p1), .val (.int p2), .val (.int p3), .val (.int p4), .val (.int p5)] [(.int (p5 >>> (((8 : Int32) * ((5 : Int32) - p1)) &&& 31)))])
        refine Goes.step (fun _ k => XS.sipush X0.here hx rfl (hb hby d12_54) k) ?_
        show Goes p e below s _ _ _ s₁ (mkF m 57 #[.val (.int p1), .val (.int p2), .val (.int p3), .val (.int p4), .val (.int p5)] [(.int (255 : Int32)), (.int (p5 >>> (((8 : Int32) * ((5 : Int32) - p1)) &&& 31)))])
        refine Goes.step (fun _ k => XS.iand X0.here hx rfl (hb hby d12_57) rfl k) ?_
        show Goes p e below s _ _ _ s₁ (mkF m 58 #[.val (.int p1), .val (.int p2), .val (.int p3), .val (.int p4), .val (.int p5)] [(.int ((p5 >>> (((8 : Int32) * ((5 : Int32) - p1)) &&& 31)) &&& (255 : Int32)))])
        exact Goes.outI X0 hx hlk Bd.returns (hb hby d12_58) ⟨rfl, rfl, e0⟩ (by decide) (by decide)
theorem own_15 (p : Int32) : ∃ n : Nat, n ≤ 16 ∧ (p &&& (15 : Int32)) = Int32.ofNat n := by
  have e := c_mask p 15 4 (by decide) (by decide)
  generalize p &&& (15 : Int32) = c at *
  refine ⟨c.toInt.toNat, by omega, ?_⟩
  apply Int32.toInt_inj.mp
  rw [Int32.toInt_ofNat_of_lt (by omega)]; omega
theorem own_mod5 (p : Int32) : ∃ k : Nat, k < 5 ∧ ((p &&& (2147483647 : Int32)) % (5 : Int32)) = Int32.ofNat k := by
  have e := c_mask p 2147483647 31 (by decide) (by decide)
  have q := (c_irem (p &&& (2147483647 : Int32)) 5 5 rfl).1 (by omega)
  generalize (p &&& (2147483647 : Int32)) % (5 : Int32) = c at *
  refine ⟨c.toInt.toNat, by omega, ?_⟩
  apply Int32.toInt_inj.mp
  rw [Int32.toInt_ofNat_of_lt (by omega)]; omega
def own_put (f : Nat → Int32) (k : Nat) (v : Int32) : Nat → Int32 := updI (updI f k ((v.toUInt32 >>> ((8 : Int32) &&& 31).toUInt32).toInt32).toInt8.toInt32) (k + 1) v.toInt8.toInt32
theorem own_m255 (x : Int32) : (x &&& 255).toInt = x.toInt % 256 := c_mask x 255 8 (by decide) (by decide)
theorem own_b255 (z : Int32) : z.toInt8.toInt32 &&& 255 = z &&& 255 := by
  apply Int32.toInt_inj.mp
  rw [own_m255, own_m255]
  have := (c_i2b z).1
  omega
theorem own_sh (x q : Int32) (k : Nat) (hk : q.toBitVec.toNat % 32 = k) (h0 : 0 < k) (j : Nat) (r : Int32) (hr : r.toBitVec.toNat % 32 = j) (e : j = k) (h8 : k ≤ 24) : ((x.toUInt32 >>> (q &&& 31).toUInt32).toInt32) &&& 255 = (x >>> (r &&& 31)) &&& 255 := by
  apply Int32.toInt_inj.mp
  rw [own_m255, own_m255, c_iushr x q k hk h0, c_ishr x r j hr, e]
  have h : ∀ m : Int, (m % 4294967296) / ((2 ^ k : Nat) : Int) % 256 = m / ((2 ^ k : Nat) : Int) % 256 := by
    intro m
    obtain rfl | rfl | rfl | rfl | rfl | rfl | rfl | rfl | rfl | rfl | rfl | rfl | rfl | rfl | rfl | rfl | rfl | rfl | rfl | rfl | rfl | rfl | rfl | rfl : k = 1 ∨ k = 2 ∨ k = 3 ∨ k = 4 ∨ k = 5 ∨ k = 6 ∨ k = 7 ∨ k = 8 ∨ k = 9 ∨ k = 10 ∨ k = 11 ∨ k = 12 ∨ k = 13 ∨ k = 14 ∨ k = 15 ∨ k = 16 ∨ k = 17 ∨ k = 18 ∨ k = 19 ∨ k = 20 ∨ k = 21 ∨ k = 22 ∨ k = 23 ∨ k = 24 := by omega
    all_goals (simp only [Nat.reducePow]; omega)
  exact h _
theorem own_hi (v : Int32) : ((v.toUInt32 >>> ((8 : Int32) &&& 31).toUInt32).toInt32).toInt8.toInt32 &&& 255 = (v &&& 65280) >>> ((8 : Int32) &&& 31) := by
  rw [own_b255]
  have e1 : (v &&& 65280) >>> ((8 : Int32) &&& 31) = (v >>> ((8 : Int32) &&& 31)) &&& 255 := by
    apply Int32.toBitVec_inj.mp
    have e8 : ((8 : Int32) &&& 31) = 8 := by decide
    rw [e8, Int32.toBitVec_shiftRight, Int32.toBitVec_and, Int32.toBitVec_and, Int32.toBitVec_shiftRight]
    have ek : (Int32.toBitVec 8).smod 32 = 8#32 := by decide
    rw [ek]
    have e255 : (255 : Int32).toBitVec = (Int32.toBitVec 65280).sshiftRight' 8#32 := by decide
    rw [e255]
    exact BitVec.sshiftRight_and_distrib _ _ _
  rw [e1]
  exact own_sh v 8 8 (by decide) (by decide) 8 8 (by decide) rfl (by decide)
theorem own_16_8 (x : Int32) : ((((x.toUInt32 >>> ((16 : Int32) &&& 31).toUInt32).toInt32).toUInt32 >>> ((8 : Int32) &&& 31).toUInt32).toInt32).toInt8.toInt32 &&& 255 = (x >>> ((24 : Int32) &&& 31)) &&& 255 := by
  rw [own_b255]
  apply Int32.toInt_inj.mp
  rw [own_m255, own_m255, c_iushr _ 8 8 (by decide) (by decide), c_iushr x 16 16 (by decide) (by decide), c_ishr x 24 24 (by decide)]
  simp only [Nat.reducePow]
  have := x.toInt_lt
  have := x.le_toInt
  omega
theorem own_fin0 (p1 p2 p3 : Int32) (k : Nat) (hk : k < 5) {f : Nat → Int32} {w : Int32} (hb : f 0 = ((((p1.toUInt32 >>> ((16 : Int32) &&& 31).toUInt32).toInt32).toUInt32 >>> ((8 : Int32) &&& 31).toUInt32).toInt32).toInt8.toInt32) (hg : w = own_put f k p3 0) : w &&& (255 : Int32) = f12 (0 : Int32) (Int32.ofNat k) p3 p1 p2 := by
  subst hg
  obtain rfl | rfl | rfl | rfl | rfl : k = 0 ∨ k = 1 ∨ k = 2 ∨ k = 3 ∨ k = 4 := by omega
  · exact own_hi p3
  all_goals (show f 0 &&& 255 = _; rw [hb]; exact own_16_8 p1)
theorem own_fin1 (p1 p2 p3 : Int32) (k : Nat) (hk : k < 5) {f : Nat → Int32} {w : Int32} (hb : f 1 = ((p1.toUInt32 >>> ((16 : Int32) &&& 31).toUInt32).toInt32).toInt8.toInt32) (hg : w = own_put f k p3 1) : w &&& (255 : Int32) = f12 (1 : Int32) (Int32.ofNat k) p3 p1 p2 := by
  subst hg
  obtain rfl | rfl | rfl | rfl | rfl : k = 0 ∨ k = 1 ∨ k = 2 ∨ k = 3 ∨ k = 4 := by omega
  · exact own_b255 p3
  · exact own_hi p3
  all_goals (show f 1 &&& 255 = _; rw [hb, own_b255]; exact own_sh p1 16 16 (by decide) (by decide) 16 16 (by decide) rfl (by decide))
theorem own_fin2 (p1 p2 p3 : Int32) (k : Nat) (hk : k < 5) {f : Nat → Int32} {w : Int32} (hb : f 2 = ((p1.toUInt32 >>> ((8 : Int32) &&& 31).toUInt32).toInt32).toInt8.toInt32) (hg : w = own_put f k p3 2) : w &&& (255 : Int32) = f12 (2 : Int32) (Int32.ofNat k) p3 p1 p2 := by
  subst hg
  obtain rfl | rfl | rfl | rfl | rfl : k = 0 ∨ k = 1 ∨ k = 2 ∨ k = 3 ∨ k = 4 := by omega
  · show f 2 &&& 255 = _; rw [hb, own_b255]; exact own_sh p1 8 8 (by decide) (by decide) 8 8 (by decide) rfl (by decide)
  · exact own_b255 p3
  · exact own_hi p3
  all_goals (show f 2 &&& 255 = _; rw [hb, own_b255]; exact own_sh p1 8 8 (by decide) (by decide) 8 8 (by decide) rfl (by decide))
theorem own_sh0 (x : Int32) : x &&& 255 = (x >>> ((0 : Int32) &&& 31)) &&& 255 := by
  apply Int32.toInt_inj.mp
  rw [own_m255, own_m255, c_ishr x 0 0 (by decide)]
  simp
theorem own_fin3 (p1 p2 p3 : Int32) (k : Nat) (hk : k < 5) {f : Nat → Int32} {w : Int32} (hb : f 3 = p1.toInt8.toInt32) (hg : w = own_put f k p3 3) : w &&& (255 : Int32) = f12 (3 : Int32) (Int32.ofNat k) p3 p1 p2 := by
  subst hg
  obtain rfl | rfl | rfl | rfl | rfl : k = 0 ∨ k = 1 ∨ k = 2 ∨ k = 3 ∨ k = 4 := by omega
  · show f 3 &&& 255 = _; rw [hb, own_b255]; exact own_sh0 p1
  · show f 3 &&& 255 = _; rw [hb, own_b255]; exact own_sh0 p1
  · exact own_b255 p3
  · exact own_hi p3
  · show f 3 &&& 255 = _; rw [hb, own_b255]; exact own_sh0 p1
theorem own_fin4 (p1 p2 p3 : Int32) (k : Nat) (hk : k < 5) {f : Nat → Int32} {w : Int32} (hb : f 4 = ((p2.toUInt32 >>> ((8 : Int32) &&& 31).toUInt32).toInt32).toInt8.toInt32) (hg : w = own_put f k p3 4) : w &&& (255 : Int32) = f12 (4 : Int32) (Int32.ofNat k) p3 p1 p2 := by
  subst hg
  obtain rfl | rfl | rfl | rfl | rfl : k = 0 ∨ k = 1 ∨ k = 2 ∨ k = 3 ∨ k = 4 := by omega
  · show f 4 &&& 255 = _; rw [hb, own_b255]; exact own_sh p2 8 8 (by decide) (by decide) 8 8 (by decide) rfl (by decide)
  · show f 4 &&& 255 = _; rw [hb, own_b255]; exact own_sh p2 8 8 (by decide) (by decide) 8 8 (by decide) rfl (by decide)
  · show f 4 &&& 255 = _; rw [hb, own_b255]; exact own_sh p2 8 8 (by decide) (by decide) 8 8 (by decide) rfl (by decide)
  · exact own_b255 p3
  · exact own_hi p3
theorem own_fin5 (p1 p2 p3 : Int32) (k : Nat) (hk : k < 5) {f : Nat → Int32} {w : Int32} (hb : f 5 = p2.toInt8.toInt32) (hg : w = own_put f k p3 5) : w &&& (255 : Int32) = f12 (5 : Int32) (Int32.ofNat k) p3 p1 p2 := by
  subst hg
  obtain rfl | rfl | rfl | rfl | rfl : k = 0 ∨ k = 1 ∨ k = 2 ∨ k = 3 ∨ k = 4 := by omega
  · show f 5 &&& 255 = _; rw [hb, own_b255]; exact own_sh0 p2
  · show f 5 &&& 255 = _; rw [hb, own_b255]; exact own_sh0 p2
  · show f 5 &&& 255 = _; rw [hb, own_b255]; exact own_sh0 p2
  · show f 5 &&& 255 = _; rw [hb, own_b255]; exact own_sh0 p2
  · exact own_b255 p3
theorem pn_0 : plainName "com/example/proxysmith/proxysmith/BytesU2AtPinLaw" = true := by first | (simp [plainName, overriddenIn]; done) | decide +kernel
theorem pd_0_0 : parseMethodDescriptor "(I)V" = some ⟨[.int], none⟩ := by decide +kernel
theorem pd_0_1 : parseMethodDescriptor "(II)V" = some ⟨[.int, .int], none⟩ := by decide +kernel
theorem pd_0_2 : parseMethodDescriptor "()I" = some ⟨[], some .int⟩ := by decide +kernel
theorem pd_0_3 : parseMethodDescriptor "()[B" = some ⟨[], some (.array .byte)⟩ := by decide +kernel
theorem pd_0_4 : parseMethodDescriptor "(IIIII)I" = some ⟨[.int, .int, .int, .int, .int], some .int⟩ := by decide +kernel
theorem ef_0 (m : MethodId) (p1 : Int32) (p2 : Int32) (p3 : Int32) (p4 : Int32) (p5 : Int32) : entryFrame m #[(.int p1), (.int p2), (.int p3), (.int p4), (.int p5)] maxLocals = mkF m 0 #[.val (.int p1), .val (.int p2), .val (.int p3), .val (.int p4), .val (.int p5), .unset, .unset, .unset, .unset, .unset] [] := by first | (simp [entryFrame, mkF, argsToLocals, Value.category, maxLocals]; done) | rfl
def Q0 (Z : State) (p1 : Int32) (p2 : Int32) (p3 : Int32) (p4 : Int32) (p5 : Int32)  (h0 : Heap) (n0 : Nat) (v : Option Value) (h : Heap) (L : List Loc) : Prop := v = some (.int (1 : Int32)) ∧ Fr n0 L
set_option maxRecDepth 65536 in
set_option maxHeartbeats 40000000 in
theorem rm0 (l : Launch) (Z : State) (a0 : Array Value) (hw : ∀ d ∈ tables_1, d.before a0 Z = true) (ws : List Jvm.Cond) (p1 : Int32) (p2 : Int32) (p3 : Int32) (p4 : Int32) (p5 : Int32)  (h0 : Heap) (n0 : Nat) (Z0 : n0 ≤ h0.size)  :
    MetFree l x (head1 (Jvm.Cond.code x code maxLocals ret :: ws) room_1) (fun a U => a = #[(.int p1), (.int p2), (.int p3), (.int p4), (.int p5)] ∧ Z.Warmed39 U.vm ∧ U.heap = h0) (fun _ _ _ _ _ => True) (fun _ U o U' => ∃ v L, o = .returned v ∧ Q0 Z p1 p2 p3 p4 p5 h0 n0 v U'.heap L ∧ FrameEnd U o U' L room_1.cells room_1.slots) := by
  refine MetFree.of_bodySF (plainFor_of_name pn_0) hisR ?_
  intro p e s m args below meth c s₁ Bd hml0 hP hK
  obtain ⟨rfl, hZ, hh⟩ := hP
  have hx := Bd.exec
  have hby := Bd.bytes
  have hlk := Bd.notSynchronized
  have hml : c.maxLocals = 10 := hml0
  have hown : s.vm.findClass "com/example/proxysmith/proxysmith/BytesU2AtPinLaw" = some m.cls := findClass_of_methodNamed Bd.named
  have hnm := (name_of_methodNamed Bd.named Bd.method).1
  have X0 : Stand p l e room_1 s m #[(.int p1), (.int p2), (.int p3), (.int p4), (.int p5)] below meth c s₁ [] 0 0 := Stand.of_body Bd
  have e0 : s₁.heap = h0 := by rw [← hh, Bd.state]; rfl
  have N0 := Fr.nil n0
  have K0 : Keep h0 h0 [] := Keep.refl h0 _
  show Goes p e below s room_1.cells room_1.slots (Q0 Z p1 p2 p3 p4 p5 h0 n0) s₁ (entryFrame m #[(.int p1), (.int p2), (.int p3), (.int p4), (.int p5)] maxLocals)
  refine Goes.step (fun t k => castTop (ef_0 m p1 p2 p3 p4 p5) k) ?_
  refine Goes.step (fun _ k => XS.iload X0.here hx rfl (hb hby at_0) rfl k) ?_
  show Goes p e below s _ _ _ s₁ (mkF m 2 #[.val (.int p1), .val (.int p2), .val (.int p3), .val (.int p4), .val (.int p5), .unset, .unset, .unset, .unset, .unset] [(.int p5)])
  refine Goes.step (fun _ k => XS.bipush X0.here hx rfl (hb hby at_2) k) ?_
  show Goes p e below s _ _ _ s₁ (mkF m 4 #[.val (.int p1), .val (.int p2), .val (.int p3), .val (.int p4), .val (.int p5), .unset, .unset, .unset, .unset, .unset] [(.int (15 : Int32)), (.int p5)])
  refine Goes.step (fun _ k => XS.iand X0.here hx rfl (hb hby at_4) rfl k) ?_
  show Goes p e below s _ _ _ s₁ (mkF m 5 #[.val (.int p1), .val (.int p2), .val (.int p3), .val (.int p4), .val (.int p5), .unset, .unset, .unset, .unset, .unset] [(.int (p5 &&& (15 : Int32)))])
  obtain ⟨n, hn, en⟩ := own_15 p5
  rw [en]
  refine Goes.step (fun _ k => XS.istore X0.here hx rfl (hb hby at_5) rfl (l' := #[.val (.int p1), .val (.int p2), .val (.int p3), .val (.int p4), .val (.int p5), .val (.int (Int32.ofNat n)), .unset, .unset, .unset, .unset]) rfl k) ?_
  show Goes p e below s _ _ _ s₁ (mkF m 7 #[.val (.int p1), .val (.int p2), .val (.int p3), .val (.int p4), .val (.int p5), .val (.int (Int32.ofNat n)), .unset, .unset, .unset, .unset] [])
  refine Goes.step (fun _ k => XS.iloadN X0.here hx rfl (hb hby at_7) rfl k) ?_
  show Goes p e below s _ _ _ s₁ (mkF m 8 #[.val (.int p1), .val (.int p2), .val (.int p3), .val (.int p4), .val (.int p5), .val (.int (Int32.ofNat n)), .unset, .unset, .unset, .unset] [(.int p4)])
  refine Goes.step (fun _ k => X0.ldcInt hx hown (mvT hZ (hw _ (List.mem_of_getElem? (i := 0) rfl))) (g := (mkF m 8 #[.val (.int p1), .val (.int p2), .val (.int p3), .val (.int p4), .val (.int p5), .val (.int (Int32.ofNat n)), .unset, .unset, .unset, .unset] [(.int p4)])) rfl (hb hby at_8) _ k) ?_
  show Goes p e below s _ _ _ s₁ (mkF m 10 #[.val (.int p1), .val (.int p2), .val (.int p3), .val (.int p4), .val (.int p5), .val (.int (Int32.ofNat n)), .unset, .unset, .unset, .unset] [(.int (2147483647 : Int32)), (.int p4)])
  refine Goes.step (fun _ k => XS.iand X0.here hx rfl (hb hby at_10) rfl k) ?_
  show Goes p e below s _ _ _ s₁ (mkF m 11 #[.val (.int p1), .val (.int p2), .val (.int p3), .val (.int p4), .val (.int p5), .val (.int (Int32.ofNat n)), .unset, .unset, .unset, .unset] [(.int (p4 &&& (2147483647 : Int32)))])
  refine Goes.step (fun _ k => XS.iconst X0.here hx rfl (hb hby at_11) k) ?_
  show Goes p e below s _ _ _ s₁ (mkF m 12 #[.val (.int p1), .val (.int p2), .val (.int p3), .val (.int p4), .val (.int p5), .val (.int (Int32.ofNat n)), .unset, .unset, .unset, .unset] [(.int (5 : Int32)), (.int (p4 &&& (2147483647 : Int32)))])
  refine Goes.step (fun _ k => iremM X0 hx rfl (hb hby at_12) rfl (by decide) k) ?_
  show Goes p e below s _ _ _ s₁ (mkF m 13 #[.val (.int p1), .val (.int p2), .val (.int p3), .val (.int p4), .val (.int p5), .val (.int (Int32.ofNat n)), .unset, .unset, .unset, .unset] [(.int ((p4 &&& (2147483647 : Int32)) % (5 : Int32)))])
  obtain ⟨kk, hk, ek⟩ := own_mod5 p4
  rw [ek]
  refine Goes.step (fun _ k => XS.istore X0.here hx rfl (hb hby at_13) rfl (l' := #[.val (.int p1), .val (.int p2), .val (.int p3), .val (.int p4), .val (.int p5), .val (.int (Int32.ofNat n)), .val (.int (Int32.ofNat kk)), .unset, .unset, .unset]) rfl k) ?_
  show Goes p e below s _ _ _ s₁ (mkF m 15 #[.val (.int p1), .val (.int p2), .val (.int p3), .val (.int p4), .val (.int p5), .val (.int (Int32.ofNat n)), .val (.int (Int32.ofNat kk)), .unset, .unset, .unset] [])
  obtain ⟨T1, h1, X1, e1, E1, A1, D1, -, st1⟩ := newO X0 hx hZ hown (hw _ (List.mem_of_getElem? (i := 1) rfl)) (hw _ (List.mem_of_getElem? (i := 2) rfl)) (hw _ (List.mem_of_getElem? (i := 3) rfl)) e0 (g := (mkF m 15 #[.val (.int p1), .val (.int p2), .val (.int p3), .val (.int p4), .val (.int p5), .val (.int (Int32.ofNat n)), .val (.int (Int32.ofNat kk)), .unset, .unset, .unset] [])) rfl (hb hby at_15) (by decide) (by decide)
  obtain ⟨b1, g_1⟩ : ∃ z, z = h0.size := ⟨_, rfl⟩
  rw [← g_1] at A1 D1 st1
  refine Goes.step st1 ?_
  have ge_b1 : n0 ≤ b1 := by rw [g_1]; exact Z0
  have sz_b1 : h0.size ≤ b1 := by rw [g_1]; exact K0.1
  have z_1 : n0 ≤ h1.size := Nat.le_trans Z0 E1.1
  have K_1 : Keep h0 h1 [] := K0.ext E1
  have E_b1_1 : Exa Z h1 b1 "com/example/proxysmith/proxysmith/ClassFileWriter$Bytes" := A1
  have F_b1_bytes_1 : Fld Z h1 b1 "com/example/proxysmith/proxysmith/ClassFileWriter$Bytes" "bytes" "[B" .null := D1 (Or.inl (hw _ (List.mem_of_getElem? (i := 12) rfl))) (ty := (.array .byte)) (by decide)
  have F_b1_size_1 : Fld Z h1 b1 "com/example/proxysmith/proxysmith/ClassFileWriter$Bytes" "size" "I" (.int (0 : Int32)) := D1 (Or.inl (hw _ (List.mem_of_getElem? (i := 28) rfl))) (ty := .int) (by decide)
  show Goes p e below s _ _ _ T1 (mkF m 18 #[.val (.int p1), .val (.int p2), .val (.int p3), .val (.int p4), .val (.int p5), .val (.int (Int32.ofNat n)), .val (.int (Int32.ofNat kk)), .unset, .unset, .unset] [(.ref b1)])
  refine Goes.step (fun _ k => XS.dup X1.here hx rfl (hb hby at_18) rfl rfl k) ?_
  show Goes p e below s _ _ _ T1 (mkF m 19 #[.val (.int p1), .val (.int p2), .val (.int p3), .val (.int p4), .val (.int p5), .val (.int (Int32.ofNat n)), .val (.int (Int32.ofNat kk)), .unset, .unset, .unset] [(.ref b1), (.ref b1)])
  refine Goes.step (fun _ k => XS.iload X1.here hx rfl (hb hby at_19) rfl k) ?_
  show Goes p e below s _ _ _ T1 (mkF m 21 #[.val (.int p1), .val (.int p2), .val (.int p3), .val (.int p4), .val (.int p5), .val (.int (Int32.ofNat n)), .val (.int (Int32.ofNat kk)), .unset, .unset, .unset] [(.int (Int32.ofNat n)), (.ref b1), (.ref b1)])
  obtain ⟨v2, T2, h2, L2, X2, e2, Q2, st2⟩ := callXI X1 hx hZ (b := b1) (y := (⟨"com/example/proxysmith/proxysmith/ClassFileWriter$Bytes", "<init>", "(I)V"⟩ : MethodName)) hown rfl (hw _ (List.mem_of_getElem? (i := 4) rfl)) (hw _ (List.mem_of_getElem? (i := 5) rfl)) (hw _ (List.mem_of_getElem? (i := 6) rfl)) (hw _ (List.mem_of_getElem? (i := 3) rfl)) (by decide) (W := 1) (argsL := [(.int (Int32.ofNat n))]) (rest := [(.ref b1)]) (rm1 l Z a0 hw [] b1 n h1 n0 z_1 E_b1_1 F_b1_bytes_1 F_b1_size_1 ge_b1 hn) (by decide) (by decide) (by decide) (by decide) e1 (g := (mkF m 21 #[.val (.int p1), .val (.int p2), .val (.int p3), .val (.int p4), .val (.int p5), .val (.int (Int32.ofNat n)), .val (.int (Int32.ofNat kk)), .unset, .unset, .unset] [(.int (Int32.ofNat n)), (.ref b1), (.ref b1)])) rfl (by rw [hml]; rfl) (lenOf pd_0_0 rfl) rfl (by show 2 * 0 + _ ≤ _; exact Nat.le_of_eq rfl) (hb hby at_21)
  obtain ⟨b2, rfl, NQ2, KQ2, hE2, hFb2, hFs2, hA2, hab2, hg2, hb2⟩ := Q2
  refine Goes.step st2 ?_
  have E_b1_2 := E_b1_1.keep KQ2
  have z_2 : n0 ≤ h2.size := Nat.le_trans z_1 KQ2.1
  have K_2 : Keep h0 h2 [] := Keep.trans K_1 KQ2 (allS (Or.inr sz_b1) all0)
  have N_2 := Fr.app N0 NQ2
  show Goes p e below s _ _ _ T2 (mkF m 24 #[.val (.int p1), .val (.int p2), .val (.int p3), .val (.int p4), .val (.int p5), .val (.int (Int32.ofNat n)), .val (.int (Int32.ofNat kk)), .unset, .unset, .unset] [(.ref b1)])
  refine Goes.step (fun _ k => XS.astore X2.here hx rfl (hb hby at_24) rfl rfl (l' := #[.val (.int p1), .val (.int p2), .val (.int p3), .val (.int p4), .val (.int p5), .val (.int (Int32.ofNat n)), .val (.int (Int32.ofNat kk)), .val (.ref b1), .unset, .unset]) rfl k) ?_
  show Goes p e below s _ _ _ T2 (mkF m 26 #[.val (.int p1), .val (.int p2), .val (.int p3), .val (.int p4), .val (.int p5), .val (.int (Int32.ofNat n)), .val (.int (Int32.ofNat kk)), .val (.ref b1), .unset, .unset] [])
  refine Goes.step (fun _ k => XS.aload X2.here hx rfl (hb hby at_26) rfl rfl k) ?_
  show Goes p e below s _ _ _ T2 (mkF m 28 #[.val (.int p1), .val (.int p2), .val (.int p3), .val (.int p4), .val (.int p5), .val (.int (Int32.ofNat n)), .val (.int (Int32.ofNat kk)), .val (.ref b1), .unset, .unset] [(.ref b1)])
  refine Goes.step (fun _ k => XS.iloadN X2.here hx rfl (hb hby at_28) rfl k) ?_
  show Goes p e below s _ _ _ T2 (mkF m 29 #[.val (.int p1), .val (.int p2), .val (.int p3), .val (.int p4), .val (.int p5), .val (.int (Int32.ofNat n)), .val (.int (Int32.ofNat kk)), .val (.ref b1), .unset, .unset] [(.int p1), (.ref b1)])
  obtain ⟨v3, T3, h3, L3, X3, e3, Q3, st3⟩ := callXV X2 hx hZ (C := "com/example/proxysmith/proxysmith/ClassFileWriter$Bytes") (b := b1) (y := (⟨"com/example/proxysmith/proxysmith/ClassFileWriter$Bytes", "u4", "(I)V"⟩ : MethodName)) (z := (⟨"com/example/proxysmith/proxysmith/ClassFileWriter$Bytes", "u4", "(I)V"⟩ : MethodName)) hown (hw _ (List.mem_of_getElem? (i := 13) rfl)) (hw _ (List.mem_of_getElem? (i := 14) rfl)) (hw _ (List.mem_of_getElem? (i := 16) rfl)) (hw _ (List.mem_of_getElem? (i := 15) rfl)) (hw _ (List.mem_of_getElem? (i := 17) rfl)) (hw _ (List.mem_of_getElem? (i := 3) rfl)) (notFace_of_selects (args := #[]) (mvT hZ (hw _ (List.mem_of_getElem? (i := 16) rfl)))) (by decide) (W := 0) (argsL := [(.int p1)]) (rest := []) (rm3 l Z a0 hw [] b1 p1 b2 n 0 (fun _ => 0) h2 n0 z_2 hE2 hFb2 hFs2 hA2 hab2 ge_b1 hg2 (Nat.zero_le n) (Nat.le_trans hn (by decide)) (by omega)) (by decide) (by decide) (by decide) (by decide) e2 hE2 (g := (mkF m 29 #[.val (.int p1), .val (.int p2), .val (.int p3), .val (.int p4), .val (.int p5), .val (.int (Int32.ofNat n)), .val (.int (Int32.ofNat kk)), .val (.ref b1), .unset, .unset] [(.int p1), (.ref b1)])) rfl (by rw [hml]; rfl) (lenOf pd_0_0 rfl) rfl (by show 2 * 0 + _ ≤ _; exact Nat.le_of_eq rfl) (hb hby at_29)
  obtain ⟨b3, n3, f3, rfl, NQ3, KQ3, hE3, hFb3, hFs3, hA3, hab3, hg3, ho3, hs3, hn3, hf3, hv3, hu3, hx3, hy3⟩ := Q3
  refine Goes.step st3 ?_
  have hE2_3 := hE2.keep KQ3
  have z_3 : n0 ≤ h3.size := Nat.le_trans z_2 KQ3.1
  have K_3 : Keep h0 h3 [] := Keep.trans K_2 KQ3 (allS (Or.inr sz_b1) (allS (Or.inr (Nat.le_trans K_1.1 hb2)) all0))
  have N_3 := Fr.app N_2 NQ3
  have mem_b3 : b3 ∈ [] ∨ h0.size ≤ b3 := ho3.elim (fun q => q ▸ (Or.inr (Nat.le_trans K_1.1 hb2))) (fun q => Or.inr (Nat.le_trans K_2.1 q))
  show Goes p e below s _ _ _ T3 (mkF m 32 #[.val (.int p1), .val (.int p2), .val (.int p3), .val (.int p4), .val (.int p5), .val (.int (Int32.ofNat n)), .val (.int (Int32.ofNat kk)), .val (.ref b1), .unset, .unset] [])
  refine Goes.step (fun _ k => XS.aload X3.here hx rfl (hb hby at_32) rfl rfl k) ?_
  show Goes p e below s _ _ _ T3 (mkF m 34 #[.val (.int p1), .val (.int p2), .val (.int p3), .val (.int p4), .val (.int p5), .val (.int (Int32.ofNat n)), .val (.int (Int32.ofNat kk)), .val (.ref b1), .unset, .unset] [(.ref b1)])
  refine Goes.step (fun _ k => XS.iloadN X3.here hx rfl (hb hby at_34) rfl k) ?_
  show Goes p e below s _ _ _ T3 (mkF m 35 #[.val (.int p1), .val (.int p2), .val (.int p3), .val (.int p4), .val (.int p5), .val (.int (Int32.ofNat n)), .val (.int (Int32.ofNat kk)), .val (.ref b1), .unset, .unset] [(.int p2), (.ref b1)])
  obtain ⟨v4, T4, h4, L4, X4, e4, Q4, st4⟩ := callXV X3 hx hZ (C := "com/example/proxysmith/proxysmith/ClassFileWriter$Bytes") (b := b1) (y := (⟨"com/example/proxysmith/proxysmith/ClassFileWriter$Bytes", "u2", "(I)V"⟩ : MethodName)) (z := (⟨"com/example/proxysmith/proxysmith/ClassFileWriter$Bytes", "u2", "(I)V"⟩ : MethodName)) hown (hw _ (List.mem_of_getElem? (i := 44) rfl)) (hw _ (List.mem_of_getElem? (i := 19) rfl)) (hw _ (List.mem_of_getElem? (i := 21) rfl)) (hw _ (List.mem_of_getElem? (i := 20) rfl)) (hw _ (List.mem_of_getElem? (i := 22) rfl)) (hw _ (List.mem_of_getElem? (i := 3) rfl)) (notFace_of_selects (args := #[]) (mvT hZ (hw _ (List.mem_of_getElem? (i := 21) rfl)))) (by decide) (W := 0) (argsL := [(.int p2)]) (rest := []) (rm4 l Z a0 hw [] b1 p2 b3 n3 (0 + 4) f3 h3 n0 z_3 hE3 hFb3 hFs3 hA3 hab3 ge_b1 hg3 hs3 hn3 (by omega)) (by decide) (by decide) (by decide) (by decide) e3 hE3 (g := (mkF m 35 #[.val (.int p1), .val (.int p2), .val (.int p3), .val (.int p4), .val (.int p5), .val (.int (Int32.ofNat n)), .val (.int (Int32.ofNat kk)), .val (.ref b1), .unset, .unset] [(.int p2), (.ref b1)])) rfl (by rw [hml]; rfl) (lenOf pd_0_0 rfl) rfl (by show 2 * 0 + _ ≤ _; exact Nat.le_of_eq rfl) (hb hby at_35)
  obtain ⟨b4, n4, f4, rfl, NQ4, KQ4, hE4, hFb4, hFs4, hA4, hab4, hg4, ho4, hs4, hn4, hf4, hv4, hu4⟩ := Q4
  refine Goes.step st4 ?_
  have hE3_4 := hE3.keep KQ4
  have z_4 : n0 ≤ h4.size := Nat.le_trans z_3 KQ4.1
  have K_4 : Keep h0 h4 [] := Keep.trans K_3 KQ4 (allS (Or.inr sz_b1) (allS mem_b3 all0))
  have N_4 := Fr.app N_3 NQ4
  have mem_b4 : b4 ∈ [] ∨ h0.size ≤ b4 := ho4.elim (fun q => q ▸ mem_b3) (fun q => Or.inr (Nat.le_trans K_3.1 q))
  show Goes p e below s _ _ _ T4 (mkF m 38 #[.val (.int p1), .val (.int p2), .val (.int p3), .val (.int p4), .val (.int p5), .val (.int (Int32.ofNat n)), .val (.int (Int32.ofNat kk)), .val (.ref b1), .unset, .unset] [])
  refine Goes.step (fun _ k => XS.aload X4.here hx rfl (hb hby at_38) rfl rfl k) ?_
  show Goes p e below s _ _ _ T4 (mkF m 40 #[.val (.int p1), .val (.int p2), .val (.int p3), .val (.int p4), .val (.int p5), .val (.int (Int32.ofNat n)), .val (.int (Int32.ofNat kk)), .val (.ref b1), .unset, .unset] [(.ref b1)])
  refine Goes.step (fun _ k => XS.iload X4.here hx rfl (hb hby at_40) rfl k) ?_
  show Goes p e below s _ _ _ T4 (mkF m 42 #[.val (.int p1), .val (.int p2), .val (.int p3), .val (.int p4), .val (.int p5), .val (.int (Int32.ofNat n)), .val (.int (Int32.ofNat kk)), .val (.ref b1), .unset, .unset] [(.int (Int32.ofNat kk)), (.ref b1)])
  refine Goes.step (fun _ k => XS.iloadN X4.here hx rfl (hb hby at_42) rfl k) ?_
  show Goes p e below s _ _ _ T4 (mkF m 43 #[.val (.int p1), .val (.int p2), .val (.int p3), .val (.int p4), .val (.int p5), .val (.int (Int32.ofNat n)), .val (.int (Int32.ofNat kk)), .val (.ref b1), .unset, .unset] [(.int p3), (.int (Int32.ofNat kk)), (.ref b1)])
  obtain ⟨v5, T5, h5, L5, X5, e5, Q5, st5⟩ := callXV X4 hx hZ (C := "com/example/proxysmith/proxysmith/ClassFileWriter$Bytes") (b := b1) (y := (⟨"com/example/proxysmith/proxysmith/ClassFileWriter$Bytes", "u2At", "(II)V"⟩ : MethodName)) (z := (⟨"com/example/proxysmith/proxysmith/ClassFileWriter$Bytes", "u2At", "(II)V"⟩ : MethodName)) hown (hw _ (List.mem_of_getElem? (i := 45) rfl)) (hw _ (List.mem_of_getElem? (i := 46) rfl)) (hw _ (List.mem_of_getElem? (i := 48) rfl)) (hw _ (List.mem_of_getElem? (i := 47) rfl)) (hw _ (List.mem_of_getElem? (i := 49) rfl)) (hw _ (List.mem_of_getElem? (i := 3) rfl)) (notFace_of_selects (args := #[]) (mvT hZ (hw _ (List.mem_of_getElem? (i := 48) rfl)))) (by decide) (W := 0) (argsL := [(.int (Int32.ofNat kk)), (.int p3)]) (rest := []) (rm9 l Z a0 hw [] b1 p3 kk b4 n4 (0 + 4 + 2) f4 h4 n0 z_4 hE4 hFb4 hFs4 hA4 hab4 ge_b1 hg4 hs4 hn4 (by omega)) (by decide) (by decide) (by decide) (by decide) e4 hE4 (g := (mkF m 43 #[.val (.int p1), .val (.int p2), .val (.int p3), .val (.int p4), .val (.int p5), .val (.int (Int32.ofNat n)), .val (.int (Int32.ofNat kk)), .val (.ref b1), .unset, .unset] [(.int p3), (.int (Int32.ofNat kk)), (.ref b1)])) rfl (by rw [hml]; rfl) (lenOf pd_0_1 rfl) rfl (by show 2 * 0 + _ ≤ _; exact Nat.le_of_eq rfl) (hb hby at_43)
  obtain ⟨rfl, NQ5, KQ5, hE5, hFb5, hFs5, hA5⟩ := Q5
  refine Goes.step st5 ?_
  have hE4_5 := hE4.keep KQ5
  have z_5 : n0 ≤ h5.size := Nat.le_trans z_4 KQ5.1
  have K_5 : Keep h0 h5 [] := Keep.trans K_4 KQ5 (allS (Or.inr sz_b1) (allS mem_b4 all0))
  have N_5 := Fr.app N_4 NQ5
  show Goes p e below s _ _ _ T5 (mkF m 46 #[.val (.int p1), .val (.int p2), .val (.int p3), .val (.int p4), .val (.int p5), .val (.int (Int32.ofNat n)), .val (.int (Int32.ofNat kk)), .val (.ref b1), .unset, .unset] [])
  refine Goes.step (fun _ k => XS.aload X5.here hx rfl (hb hby at_46) rfl rfl k) ?_
  show Goes p e below s _ _ _ T5 (mkF m 48 #[.val (.int p1), .val (.int p2), .val (.int p3), .val (.int p4), .val (.int p5), .val (.int (Int32.ofNat n)), .val (.int (Int32.ofNat kk)), .val (.ref b1), .unset, .unset] [(.ref b1)])
  obtain ⟨T6, X6, e6, st6⟩ := callPureV X5 hx hZ (C := "com/example/proxysmith/proxysmith/ClassFileWriter$Bytes") (y := (⟨"com/example/proxysmith/proxysmith/ClassFileWriter$Bytes", "size", "()I"⟩ : MethodName)) (z := (⟨"com/example/proxysmith/proxysmith/ClassFileWriter$Bytes", "size", "()I"⟩ : MethodName)) hown (hw _ (List.mem_of_getElem? (i := 50) rfl)) (hw _ (List.mem_of_getElem? (i := 51) rfl)) (hw _ (List.mem_of_getElem? (i := 53) rfl)) (hw _ (List.mem_of_getElem? (i := 52) rfl)) (hw _ (List.mem_of_getElem? (i := 54) rfl)) (hw _ (List.mem_of_getElem? (i := 3) rfl)) (notFace_of_selects (args := #[]) (mvT hZ (hw _ (List.mem_of_getElem? (i := 53) rfl)))) (by decide) (W := 0) (argsL := []) (rest := []) (r := (.int (Int32.ofNat 6))) (fun _ _ _ q => q) (rm10 l Z a0 hw [] b1 (Int32.ofNat 6) h5 hFs5) (by decide) (by decide) (by decide) (by decide) e5 hE5 (g := (mkF m 48 #[.val (.int p1), .val (.int p2), .val (.int p3), .val (.int p4), .val (.int p5), .val (.int (Int32.ofNat n)), .val (.int (Int32.ofNat kk)), .val (.ref b1), .unset, .unset] [(.ref b1)])) rfl (by rw [hml]; rfl) (lenOf pd_0_2 rfl) rfl (by show 2 * 0 + _ ≤ _; exact Nat.le_of_eq rfl) (hb hby at_48)
  refine Goes.step st6 ?_
  show Goes p e below s _ _ _ T6 (mkF m 51 #[.val (.int p1), .val (.int p2), .val (.int p3), .val (.int p4), .val (.int p5), .val (.int (Int32.ofNat n)), .val (.int (Int32.ofNat kk)), .val (.ref b1), .unset, .unset] [(.int (Int32.ofNat 6))])
  refine Goes.step (fun _ k => XS.istore X6.here hx rfl (hb hby at_51) rfl (l' := #[.val (.int p1), .val (.int p2), .val (.int p3), .val (.int p4), .val (.int p5), .val (.int (Int32.ofNat n)), .val (.int (Int32.ofNat kk)), .val (.ref b1), .val (.int (Int32.ofNat 6)), .unset]) rfl k) ?_
  show Goes p e below s _ _ _ T6 (mkF m 53 #[.val (.int p1), .val (.int p2), .val (.int p3), .val (.int p4), .val (.int p5), .val (.int (Int32.ofNat n)), .val (.int (Int32.ofNat kk)), .val (.ref b1), .val (.int (Int32.ofNat 6)), .unset] [])
  refine Goes.step (fun _ k => XS.aload X6.here hx rfl (hb hby at_53) rfl rfl k) ?_
  show Goes p e below s _ _ _ T6 (mkF m 55 #[.val (.int p1), .val (.int p2), .val (.int p3), .val (.int p4), .val (.int p5), .val (.int (Int32.ofNat n)), .val (.int (Int32.ofNat kk)), .val (.ref b1), .val (.int (Int32.ofNat 6)), .unset] [(.ref b1)])
  obtain ⟨v7, T7, h7, L7, X7, e7, Q7, st7⟩ := callXV X6 hx hZ (C := "com/example/proxysmith/proxysmith/ClassFileWriter$Bytes") (b := b1) (y := (⟨"com/example/proxysmith/proxysmith/ClassFileWriter$Bytes", "toByteArray", "()[B"⟩ : MethodName)) (z := (⟨"com/example/proxysmith/proxysmith/ClassFileWriter$Bytes", "toByteArray", "()[B"⟩ : MethodName)) hown (hw _ (List.mem_of_getElem? (i := 55) rfl)) (hw _ (List.mem_of_getElem? (i := 56) rfl)) (hw _ (List.mem_of_getElem? (i := 58) rfl)) (hw _ (List.mem_of_getElem? (i := 57) rfl)) (hw _ (List.mem_of_getElem? (i := 59) rfl)) (hw _ (List.mem_of_getElem? (i := 3) rfl)) (notFace_of_selects (args := #[]) (mvT hZ (hw _ (List.mem_of_getElem? (i := 58) rfl)))) (by decide) (W := 0) (argsL := []) (rest := []) (rm11 l Z a0 hw [] b1 b4 n4 6 (own_put f4 kk p3) h5 n0 z_5 hE5 hFb5 hFs5 hA5 hab4 ge_b1 hg4 hs4 hn4 (by omega)) (by decide) (by decide) (by decide) (by decide) e6 hE5 (g := (mkF m 55 #[.val (.int p1), .val (.int p2), .val (.int p3), .val (.int p4), .val (.int p5), .val (.int (Int32.ofNat n)), .val (.int (Int32.ofNat kk)), .val (.ref b1), .val (.int (Int32.ofNat 6)), .unset] [(.ref b1)])) rfl (by rw [hml]; rfl) (lenOf pd_0_3 rfl) rfl (by show 2 * 0 + _ ≤ _; exact Nat.le_of_eq rfl) (hb hby at_55)
  obtain ⟨r7, rfl, NQ7, KQ7, g7, hA7, hg7⟩ := Q7
  refine Goes.step st7 ?_
  have hE5_7 := hE5.keep KQ7
  have hFb5_7 := hFb5.keep KQ7 nin0
  have hFs5_7 := hFs5.keep KQ7 nin0
  have hA5_7 := hA5.keep KQ7 nin0
  have z_7 : n0 ≤ h7.size := Nat.le_trans z_5 KQ7.1
  have K_7 : Keep h0 h7 [] := Keep.trans K_5 KQ7 all0
  have N_7 := Fr.app N_5 NQ7
  show Goes p e below s _ _ _ T7 (mkF m 58 #[.val (.int p1), .val (.int p2), .val (.int p3), .val (.int p4), .val (.int p5), .val (.int (Int32.ofNat n)), .val (.int (Int32.ofNat kk)), .val (.ref b1), .val (.int (Int32.ofNat 6)), .unset] [(.ref r7)])
  refine Goes.step (fun _ k => XS.astore X7.here hx rfl (hb hby at_58) rfl rfl (l' := #[.val (.int p1), .val (.int p2), .val (.int p3), .val (.int p4), .val (.int p5), .val (.int (Int32.ofNat n)), .val (.int (Int32.ofNat kk)), .val (.ref b1), .val (.int (Int32.ofNat 6)), .val (.ref r7)]) rfl k) ?_
  show Goes p e below s _ _ _ T7 (mkF m 60 #[.val (.int p1), .val (.int p2), .val (.int p3), .val (.int p4), .val (.int p5), .val (.int (Int32.ofNat n)), .val (.int (Int32.ofNat kk)), .val (.ref b1), .val (.int (Int32.ofNat 6)), .val (.ref r7)] [])
  refine Goes.step (fun _ k => XS.iload X7.here hx rfl (hb hby at_60) rfl k) ?_
  show Goes p e below s _ _ _ T7 (mkF m 62 #[.val (.int p1), .val (.int p2), .val (.int p3), .val (.int p4), .val (.int p5), .val (.int (Int32.ofNat n)), .val (.int (Int32.ofNat kk)), .val (.ref b1), .val (.int (Int32.ofNat 6)), .val (.ref r7)] [(.int (Int32.ofNat 6))])
  refine Goes.step (fun _ k => XS.bipush X7.here hx rfl (hb hby at_62) k) ?_
  show Goes p e below s _ _ _ T7 (mkF m 64 #[.val (.int p1), .val (.int p2), .val (.int p3), .val (.int p4), .val (.int p5), .val (.int (Int32.ofNat n)), .val (.int (Int32.ofNat kk)), .val (.ref b1), .val (.int (Int32.ofNat 6)), .val (.ref r7)] [(.int (6 : Int32)), (.int (Int32.ofNat 6))])
  refine Goes.step (fun _ k => XS.icmpNo X7.here hx rfl (hb hby at_64) rfl (teq (by decide : (Int32.ofNat 6) = (6 : Int32))).2 k) ?_
  show Goes p e below s _ _ _ T7 (mkF m 67 #[.val (.int p1), .val (.int p2), .val (.int p3), .val (.int p4), .val (.int p5), .val (.int (Int32.ofNat n)), .val (.int (Int32.ofNat kk)), .val (.ref b1), .val (.int (Int32.ofNat 6)), .val (.ref r7)] [])
  refine Goes.step (fun _ k => XS.aload X7.here hx rfl (hb hby at_67) rfl rfl k) ?_
  show Goes p e below s _ _ _ T7 (mkF m 69 #[.val (.int p1), .val (.int p2), .val (.int p3), .val (.int p4), .val (.int p5), .val (.int (Int32.ofNat n)), .val (.int (Int32.ofNat kk)), .val (.ref b1), .val (.int (Int32.ofNat 6)), .val (.ref r7)] [(.ref r7)])
  refine Goes.step (fun _ k => rdL X7 hx hZ e7 hA7 (g := (mkF m 69 #[.val (.int p1), .val (.int p2), .val (.int p3), .val (.int p4), .val (.int p5), .val (.int (Int32.ofNat n)), .val (.int (Int32.ofNat kk)), .val (.ref b1), .val (.int (Int32.ofNat 6)), .val (.ref r7)] [(.ref r7)])) rfl rfl (hb hby at_69) _ k) ?_
  show Goes p e below s _ _ _ T7 (mkF m 70 #[.val (.int p1), .val (.int p2), .val (.int p3), .val (.int p4), .val (.int p5), .val (.int (Int32.ofNat n)), .val (.int (Int32.ofNat kk)), .val (.ref b1), .val (.int (Int32.ofNat 6)), .val (.ref r7)] [(.int (Int32.ofNat 6))])
  refine Goes.step (fun _ k => XS.bipush X7.here hx rfl (hb hby at_70) k) ?_
  show Goes p e below s _ _ _ T7 (mkF m 72 #[.val (.int p1), .val (.int p2), .val (.int p3), .val (.int p4), .val (.int p5), .val (.int (Int32.ofNat n)), .val (.int (Int32.ofNat kk)), .val (.ref b1), .val (.int (Int32.ofNat 6)), .val (.ref r7)] [(.int (6 : Int32)), (.int (Int32.ofNat 6))])
  refine Goes.step (fun _ k => XS.icmpYes X7.here hx rfl (pc0 := 72) (pc' := 77) rfl (hb hby at_72) rfl (teq (by decide : (Int32.ofNat 6) = (6 : Int32))).1 (by decide) (by decide) k) ?_
  show Goes p e below s _ _ _ T7 (mkF m 77 #[.val (.int p1), .val (.int p2), .val (.int p3), .val (.int p4), .val (.int p5), .val (.int (Int32.ofNat n)), .val (.int (Int32.ofNat kk)), .val (.ref b1), .val (.int (Int32.ofNat 6)), .val (.ref r7)] [])
  refine Goes.step (fun _ k => XS.aload X7.here hx rfl (hb hby at_77) rfl rfl k) ?_
  show Goes p e below s _ _ _ T7 (mkF m 79 #[.val (.int p1), .val (.int p2), .val (.int p3), .val (.int p4), .val (.int p5), .val (.int (Int32.ofNat n)), .val (.int (Int32.ofNat kk)), .val (.ref b1), .val (.int (Int32.ofNat 6)), .val (.ref r7)] [(.ref r7)])
  refine Goes.step (fun _ k => XS.iconst X7.here hx rfl (hb hby at_79) k) ?_
  show Goes p e below s _ _ _ T7 (mkF m 80 #[.val (.int p1), .val (.int p2), .val (.int p3), .val (.int p4), .val (.int p5), .val (.int (Int32.ofNat n)), .val (.int (Int32.ofNat kk)), .val (.ref b1), .val (.int (Int32.ofNat 6)), .val (.ref r7)] [(.int (0 : Int32)), (.ref r7)])
  refine Goes.step (fun _ k => rdB X7 hx hZ e7 hA7 (0) rfl (by decide) (g := (mkF m 80 #[.val (.int p1), .val (.int p2), .val (.int p3), .val (.int p4), .val (.int p5), .val (.int (Int32.ofNat n)), .val (.int (Int32.ofNat kk)), .val (.ref b1), .val (.int (Int32.ofNat 6)), .val (.ref r7)] [(.int (0 : Int32)), (.ref r7)])) rfl rfl (hb hby at_80) _ k) ?_
  show Goes p e below s _ _ _ T7 (mkF m 81 #[.val (.int p1), .val (.int p2), .val (.int p3), .val (.int p4), .val (.int p5), .val (.int (Int32.ofNat n)), .val (.int (Int32.ofNat kk)), .val (.ref b1), .val (.int (Int32.ofNat 6)), .val (.ref r7)] [(.int (g7 (0)))])
  refine Goes.step (fun _ k => XS.sipush X7.here hx rfl (hb hby at_81) k) ?_
  show Goes p e below s _ _ _ T7 (mkF m 84 #[.val (.int p1), .val (.int p2), .val (.int p3), .val (.int p4), .val (.int p5), .val (.int (Int32.ofNat n)), .val (.int (Int32.ofNat kk)), .val (.ref b1), .val (.int (Int32.ofNat 6)), .val (.ref r7)] [(.int (255 : Int32)), (.int (g7 (0)))])
  refine Goes.step (fun _ k => XS.iand X7.here hx rfl (hb hby at_84) rfl k) ?_
  show Goes p e below s _ _ _ T7 (mkF m 85 #[.val (.int p1), .val (.int p2), .val (.int p3), .val (.int p4), .val (.int p5), .val (.int (Int32.ofNat n)), .val (.int (Int32.ofNat kk)), .val (.ref b1), .val (.int (Int32.ofNat 6)), .val (.ref r7)] [(.int ((g7 (0)) &&& (255 : Int32)))])
  refine Goes.step (fun _ k => XS.iconst X7.here hx rfl (hb hby at_85) k) ?_
  show Goes p e below s _ _ _ T7 (mkF m 86 #[.val (.int p1), .val (.int p2), .val (.int p3), .val (.int p4), .val (.int p5), .val (.int (Int32.ofNat n)), .val (.int (Int32.ofNat kk)), .val (.ref b1), .val (.int (Int32.ofNat 6)), .val (.ref r7)] [(.int (0 : Int32)), (.int ((g7 (0)) &&& (255 : Int32)))])
  as_aux_lemma =>
    refine Goes.step (fun _ k => XS.iload X7.here hx rfl (hb hby at_86) rfl k) ?_
    show Goes p e below s _ _ _ T7 (mkF m 88 #[.val (.int p1), .val (.int p2), .val (.int p3), .val (.int p4), .val (.int p5), .val (.int (Int32.ofNat n)), .val (.int (Int32.ofNat kk)), .val (.ref b1), .val (.int (Int32.ofNat 6)), .val (.ref r7)] [(.int (Int32.ofNat kk)), (.int (0 : Int32)), (.int ((g7 (0)) &&& (255 : Int32)))])
    refine Goes.step (fun _ k => XS.iloadN X7.here hx rfl (hb hby at_88) rfl k) ?_
    show Goes p e below s _ _ _ T7 (mkF m 89 #[.val (.int p1), .val (.int p2), .val (.int p3), .val (.int p4), .val (.int p5), .val (.int (Int32.ofNat n)), .val (.int (Int32.ofNat kk)), .val (.ref b1), .val (.int (Int32.ofNat 6)), .val (.ref r7)] [(.int p3), (.int (Int32.ofNat kk)), (.int (0 : Int32)), (.int ((g7 (0)) &&& (255 : Int32)))])
    refine Goes.step (fun _ k => XS.iloadN X7.here hx rfl (hb hby at_89) rfl k) ?_
    show Goes p e below s _ _ _ T7 (mkF m 90 #[.val (.int p1), .val (.int p2), .val (.int p3), .val (.int p4), .val (.int p5), .val (.int (Int32.ofNat n)), .val (.int (Int32.ofNat kk)), .val (.ref b1), .val (.int (Int32.ofNat 6)), .val (.ref r7)] [(.int p1), (.int p3), (.int (Int32.ofNat kk)), (.int (0 : Int32)), (.int ((g7 (0)) &&& (255 : Int32)))])
    refine Goes.step (fun _ k => XS.iloadN X7.here hx rfl (hb hby at_90) rfl k) ?_
    show Goes p e below s _ _ _ T7 (mkF m 91 #[.val (.int p1), .val (.int p2), .val (.int p3), .val (.int p4), .val (.int p5), .val (.int (Int32.ofNat n)), .val (.int (Int32.ofNat kk)), .val (.ref b1), .val (.int (Int32.ofNat 6)), .val (.ref r7)] [(.int p2), (.int p1), (.int p3), (.int (Int32.ofNat kk)), (.int (0 : Int32)), (.int ((g7 (0)) &&& (255 : Int32)))])
    obtain ⟨T8, X8, e8, st8⟩ := callPure X7 hx hZ (y := (⟨"com/example/proxysmith/proxysmith/BytesU2AtPinLaw", "expect", "(IIIII)I"⟩ : MethodName)) hown (hw _ (List.mem_of_getElem? (i := 60) rfl)) (hw _ (List.mem_of_getElem? (i := 61) rfl)) (hw _ (List.mem_of_getElem? (i := 62) rfl)) (hw _ (List.mem_of_getElem? (i := 63) rfl)) (by decide) (W := 1) (argsL := [(.int (0 : Int32)), (.int (Int32.ofNat kk)), (.int p3), (.int p1), (.int p2)]) (rest := [(.int ((g7 (0)) &&& (255 : Int32)))]) (r := (.int (f12 (0 : Int32) (Int32.ofNat kk) p3 p1 p2))) (fun _ _ _ q => q) (rm12 l Z a0 hw [] (0 : Int32) (Int32.ofNat kk) p3 p1 p2 h7 ) (by decide) (by decide) (by decide) (by decide) e7 (g := (mkF m 91 #[.val (.int p1), .val (.int p2), .val (.int p3), .val (.int p4), .val (.int p5), .val (.int (Int32.ofNat n)), .val (.int (Int32.ofNat kk)), .val (.ref b1), .val (.int (Int32.ofNat 6)), .val (.ref r7)] [(.int p2), (.int p1), (.int p3), (.int (Int32.ofNat kk)), (.int (0 : Int32)), (.int ((g7 (0)) &&& (255 : Int32)))])) rfl (by rw [hml]; rfl) (lenOf pd_0_4 rfl) rfl (by show 2 * 0 + _ ≤ _; exact Nat.le_of_eq rfl) (hb hby at_91)
    refine Goes.step st8 ?_
    show Goes p e below s _ _ _ T8 (mkF m 94 #[.val (.int p1), .val (.int p2), .val (.int p3), .val (.int p4), .val (.int p5), .val (.int (Int32.ofNat n)), .val (.int (Int32.ofNat kk)), .val (.ref b1), .val (.int (Int32.ofNat 6)), .val (.ref r7)] [(.int (f12 (0 : Int32) (Int32.ofNat kk) p3 p1 p2)), (.int ((g7 (0)) &&& (255 : Int32)))])
    refine Goes.step (fun _ k => XS.icmpNo X8.here hx rfl (hb hby at_94) rfl (teq (own_fin0 p1 p2 p3 kk hk ((hf4 0 (by omega)).trans hv3) (hg7 0 (by omega)))).2 k) ?_
    show Goes p e below s _ _ _ T8 (mkF m 97 #[.val (.int p1), .val (.int p2), .val (.int p3), .val (.int p4), .val (.int p5), .val (.int (Int32.ofNat n)), .val (.int (Int32.ofNat kk)), .val (.ref b1), .val (.int (Int32.ofNat 6)), .val (.ref r7)] [])
    refine Goes.step (fun _ k => XS.aload X8.here hx rfl (hb hby at_97) rfl rfl k) ?_
    show Goes p e below s _ _ _ T8 (mkF m 99 #[.val (.int p1), .val (.int p2), .val (.int p3), .val (.int p4), .val (.int p5), .val (.int (Int32.ofNat n)), .val (.int (Int32.ofNat kk)), .val (.ref b1), .val (.int (Int32.ofNat 6)), .val (.ref r7)] [(.ref r7)])
    refine Goes.step (fun _ k => XS.iconst X8.here hx rfl (hb hby at_99) k) ?_
    show Goes p e below s _ _ _ T8 (mkF m 100 #[.val (.int p1), .val (.int p2), .val (.int p3), .val (.int p4), .val (.int p5), .val (.int (Int32.ofNat n)), .val (.int (Int32.ofNat kk)), .val (.ref b1), .val (.int (Int32.ofNat 6)), .val (.ref r7)] [(.int (1 : Int32)), (.ref r7)])
    refine Goes.step (fun _ k => rdB X8 hx hZ e8 hA7 (1) rfl (by decide) (g := (mkF m 100 #[.val (.int p1), .val (.int p2), .val (.int p3), .val (.int p4), .val (.int p5), .val (.int (Int32.ofNat n)), .val (.int (Int32.ofNat kk)), .val (.ref b1), .val (.int (Int32.ofNat 6)), .val (.ref r7)] [(.int (1 : Int32)), (.ref r7)])) rfl rfl (hb hby at_100) _ k) ?_
    show Goes p e below s _ _ _ T8 (mkF m 101 #[.val (.int p1), .val (.int p2), .val (.int p3), .val (.int p4), .val (.int p5), .val (.int (Int32.ofNat n)), .val (.int (Int32.ofNat kk)), .val (.ref b1), .val (.int (Int32.ofNat 6)), .val (.ref r7)] [(.int (g7 (1)))])
    refine Goes.step (fun _ k => XS.sipush X8.here hx rfl (hb hby at_101) k) ?_
    show Goes p e below s _ _ _ T8 (mkF m 104 #[.val (.int p1), .val (.int p2), .val (.int p3), .val (.int p4), .val (.int p5), .val (.int (Int32.ofNat n)), .val (.int (Int32.ofNat kk)), .val (.ref b1), .val (.int (Int32.ofNat 6)), .val (.ref r7)] [(.int (255 : Int32)), (.int (g7 (1)))])
    refine Goes.step (fun _ k => XS.iand X8.here hx rfl (hb hby at_104) rfl k) ?_
    show Goes p e below s _ _ _ T8 (mkF m 105 #[.val (.int p1), .val (.int p2), .val (.int p3), .val (.int p4), .val (.int p5), .val (.int (Int32.ofNat n)), .val (.int (Int32.ofNat kk)), .val (.ref b1), .val (.int (Int32.ofNat 6)), .val (.ref r7)] [(.int ((g7 (1)) &&& (255 : Int32)))])
    refine Goes.step (fun _ k => XS.iconst X8.here hx rfl (hb hby at_105) k) ?_
    show Goes p e below s _ _ _ T8 (mkF m 106 #[.val (.int p1), .val (.int p2), .val (.int p3), .val (.int p4), .val (.int p5), .val (.int (Int32.ofNat n)), .val (.int (Int32.ofNat kk)), .val (.ref b1), .val (.int (Int32.ofNat 6)), .val (.ref r7)] [(.int (1 : Int32)), (.int ((g7 (1)) &&& (255 : Int32)))])
    refine Goes.step (fun _ k => XS.iload X8.here hx rfl (hb hby at_106) rfl k) ?_
    show Goes p e below s _ _ _ T8 (mkF m 108 #[.val (.int p1), .val (.int p2), .val (.int p3), .val (.int p4), .val (.int p5), .val (.int (Int32.ofNat n)), .val (.int (Int32.ofNat kk)), .val (.ref b1), .val (.int (Int32.ofNat 6)), .val (.ref r7)] [(.int (Int32.ofNat kk)), (.int (1 : Int32)), (.int ((g7 (1)) &&& (255 : Int32)))])
    refine Goes.step (fun _ k => XS.iloadN X8.here hx rfl (hb hby at_108) rfl k) ?_
    show Goes p e below s _ _ _ T8 (mkF m 109 #[.val (.int p1), .val (.int p2), .val (.int p3), .val (.int p4), .val (.int p5), .val (.int (Int32.ofNat n)), .val (.int (Int32.ofNat kk)), .val (.ref b1), .val (.int (Int32.ofNat 6)), .val (.ref r7)] [(.int p3), (.int (Int32.ofNat kk)), (.int (1 : Int32)), (.int ((g7 (1)) &&& (255 : Int32)))])
    refine Goes.step (fun _ k => XS.iloadN X8.here hx rfl (hb hby at_109) rfl k) ?_
    show Goes p e below s _ _ _ T8 (mkF m 110 #[.val (.int p1), .val (.int p2), .val (.int p3), .val (.int p4), .val (.int p5), .val (.int (Int32.ofNat n)), .val (.int (Int32.ofNat kk)), .val (.ref b1), .val (.int (Int32.ofNat 6)), .val (.ref r7)] [(.int p1), (.int p3), (.int (Int32.ofNat kk)), (.int (1 : Int32)), (.int ((g7 (1)) &&& (255 : Int32)))])
    refine Goes.step (fun _ k => XS.iloadN X8.here hx rfl (hb hby at_110) rfl k) ?_
    show Goes p e below s _ _ _ T8 (mkF m 111 #[.val (.int p1), .val (.int p2), .val (.int p3), .val (.int p4), .val (.int p5), .val (.int (Int32.ofNat n)), .val (.int (Int32.ofNat kk)), .val (.ref b1), .val (.int (Int32.ofNat 6)), .val (.ref r7)] [(.int p2), (.int p1), (.int p3), (.int (Int32.ofNat kk)), (.int (1 : Int32)), (.int ((g7 (1)) &&& (255 : Int32)))])
    obtain ⟨T9, X9, e9, st9⟩ := callPure X8 hx hZ (y := (⟨"com/example/proxysmith/proxysmith/BytesU2AtPinLaw", "expect", "(IIIII)I"⟩ : MethodName)) hown (hw _ (List.mem_of_getElem? (i := 60) rfl)) (hw _ (List.mem_of_getElem? (i := 61) rfl)) (hw _ (List.mem_of_getElem? (i := 62) rfl)) (hw _ (List.mem_of_getElem? (i := 63) rfl)) (by decide) (W := 1) (argsL := [(.int (1 : Int32)), (.int (Int32.ofNat kk)), (.int p3), (.int p1), (.int p2)]) (rest := [(.int ((g7 (1)) &&& (255 : Int32)))]) (r := (.int (f12 (1 : Int32) (Int32.ofNat kk) p3 p1 p2))) (fun _ _ _ q => q) (rm12 l Z a0 hw [] (1 : Int32) (Int32.ofNat kk) p3 p1 p2 h7 ) (by decide) (by decide) (by decide) (by decide) e8 (g := (mkF m 111 #[.val (.int p1), .val (.int p2), .val (.int p3), .val (.int p4), .val (.int p5), .val (.int (Int32.ofNat n)), .val (.int (Int32.ofNat kk)), .val (.ref b1), .val (.int (Int32.ofNat 6)), .val (.ref r7)] [(.int p2), (.int p1), (.int p3), (.int (Int32.ofNat kk)), (.int (1 : Int32)), (.int ((g7 (1)) &&& (255 : Int32)))])) rfl (by rw [hml]; rfl) (lenOf pd_0_4 rfl) rfl (by show 2 * 0 + _ ≤ _; exact Nat.le_of_eq rfl) (hb hby at_111)
    refine Goes.step st9 ?_
    show Goes p e below s _ _ _ T9 (mkF m 114 #[.val (.int p1), .val (.int p2), .val (.int p3), .val (.int p4), .val (.int p5), .val (.int (Int32.ofNat n)), .val (.int (Int32.ofNat kk)), .val (.ref b1), .val (.int (Int32.ofNat 6)), .val (.ref r7)] [(.int (f12 (1 : Int32) (Int32.ofNat kk) p3 p1 p2)), (.int ((g7 (1)) &&& (255 : Int32)))])
    refine Goes.step (fun _ k => XS.icmpNo X9.here hx rfl (hb hby at_114) rfl (teq (own_fin1 p1 p2 p3 kk hk ((hf4 1 (by omega)).trans hu3) (hg7 1 (by omega)))).2 k) ?_
    show Goes p e below s _ _ _ T9 (mkF m 117 #[.val (.int p1), .val (.int p2), .val (.int p3), .val (.int p4), .val (.int p5), .val (.int (Int32.ofNat n)), .val (.int (Int32.ofNat kk)), .val (.ref b1), .val (.int (Int32.ofNat 6)), .val (.ref r7)] [])
    refine Goes.step (fun _ k => XS.aload X9.here hx rfl (hb hby at_117) rfl rfl k) ?_
    show Goes p e below s _ _ _ T9 (mkF m 119 #[.val (.int p1), .val (.int p2), .val (.int p3), .val (.int p4), .val (.int p5), .val (.int (Int32.ofNat n)), .val (.int (Int32.ofNat kk)), .val (.ref b1), .val (.int (Int32.ofNat 6)), .val (.ref r7)] [(.ref r7)])
    refine Goes.step (fun _ k => XS.iconst X9.here hx rfl (hb hby at_119) k) ?_
    show Goes p e below s _ _ _ T9 (mkF m 120 #[.val (.int p1), .val (.int p2), .val (.int p3), .val (.int p4), .val (.int p5), .val (.int (Int32.ofNat n)), .val (.int (Int32.ofNat kk)), .val (.ref b1), .val (.int (Int32.ofNat 6)), .val (.ref r7)] [(.int (2 : Int32)), (.ref r7)])
    refine Goes.step (fun _ k => rdB X9 hx hZ e9 hA7 (2) rfl (by decide) (g := (mkF m 120 #[.val (.int p1), .val (.int p2), .val (.int p3), .val (.int p4), .val (.int p5), .val (.int (Int32.ofNat n)), .val (.int (Int32.ofNat kk)), .val (.ref b1), .val (.int (Int32.ofNat 6)), .val (.ref r7)] [(.int (2 : Int32)), (.ref r7)])) rfl rfl (hb hby at_120) _ k) ?_
    show Goes p e below s _ _ _ T9 (mkF m 121 #[.val (.int p1), .val (.int p2), .val (.int p3), .val (.int p4), .val (.int p5), .val (.int (Int32.ofNat n)), .val (.int (Int32.ofNat kk)), .val (.ref b1), .val (.int (Int32.ofNat 6)), .val (.ref r7)] [(.int (g7 (2)))])
    refine Goes.step (fun _ k => XS.sipush X9.here hx rfl (hb hby at_121) k) ?_
    show Goes p e below s _ _ _ T9 (mkF m 124 #[.val (.int p1), .val (.int p2), .val (.int p3), .val (.int p4), .val (.int p5), .val (.int (Int32.ofNat n)), .val (.int (Int32.ofNat kk)), .val (.ref b1), .val (.int (Int32.ofNat 6)), .val (.ref r7)] [(.int (255 : Int32)), (.int (g7 (2)))])
    refine Goes.step (fun _ k => XS.iand X9.here hx rfl (hb hby at_124) rfl k) ?_
    show Goes p e below s _ _ _ T9 (mkF m 125 #[.val (.int p1), .val (.int p2), .val (.int p3), .val (.int p4), .val (.int p5), .val (.int (Int32.ofNat n)), .val (.int (Int32.ofNat kk)), .val (.ref b1), .val (.int (Int32.ofNat 6)), .val (.ref r7)] [(.int ((g7 (2)) &&& (255 : Int32)))])
    refine Goes.step (fun _ k => XS.iconst X9.here hx rfl (hb hby at_125) k) ?_
    show Goes p e below s _ _ _ T9 (mkF m 126 #[.val (.int p1), .val (.int p2), .val (.int p3), .val (.int p4), .val (.int p5), .val (.int (Int32.ofNat n)), .val (.int (Int32.ofNat kk)), .val (.ref b1), .val (.int (Int32.ofNat 6)), .val (.ref r7)] [(.int (2 : Int32)), (.int ((g7 (2)) &&& (255 : Int32)))])
    refine Goes.step (fun _ k => XS.iload X9.here hx rfl (hb hby at_126) rfl k) ?_
    show Goes p e below s _ _ _ T9 (mkF m 128 #[.val (.int p1), .val (.int p2), .val (.int p3), .val (.int p4), .val (.int p5), .val (.int (Int32.ofNat n)), .val (.int (Int32.ofNat kk)), .val (.ref b1), .val (.int (Int32.ofNat 6)), .val (.ref r7)] [(.int (Int32.ofNat kk)), (.int (2 : Int32)), (.int ((g7 (2)) &&& (255 : Int32)))])
    refine Goes.step (fun _ k => XS.iloadN X9.here hx rfl (hb hby at_128) rfl k) ?_
    show Goes p e below s _ _ _ T9 (mkF m 129 #[.val (.int p1), .val (.int p2), .val (.int p3), .val (.int p4), .val (.int p5), .val (.int (Int32.ofNat n)), .val (.int (Int32.ofNat kk)), .val (.ref b1), .val (.int (Int32.ofNat 6)), .val (.ref r7)] [(.int p3), (.int (Int32.ofNat kk)), (.int (2 : Int32)), (.int ((g7 (2)) &&& (255 : Int32)))])
    refine Goes.step (fun _ k => XS.iloadN X9.here hx rfl (hb hby at_129) rfl k) ?_
    show Goes p e below s _ _ _ T9 (mkF m 130 #[.val (.int p1), .val (.int p2), .val (.int p3), .val (.int p4), .val (.int p5), .val (.int (Int32.ofNat n)), .val (.int (Int32.ofNat kk)), .val (.ref b1), .val (.int (Int32.ofNat 6)), .val (.ref r7)] [(.int p1), (.int p3), (.int (Int32.ofNat kk)), (.int (2 : Int32)), (.int ((g7 (2)) &&& (255 : Int32)))])
    refine Goes.step (fun _ k => XS.iloadN X9.here hx rfl (hb hby at_130) rfl k) ?_
    show Goes p e below s _ _ _ T9 (mkF m 131 #[.val (.int p1), .val (.int p2), .val (.int p3), .val (.int p4), .val (.int p5), .val (.int (Int32.ofNat n)), .val (.int (Int32.ofNat kk)), .val (.ref b1), .val (.int (Int32.ofNat 6)), .val (.ref r7)] [(.int p2), (.int p1), (.int p3), (.int (Int32.ofNat kk)), (.int (2 : Int32)), (.int ((g7 (2)) &&& (255 : Int32)))])
    obtain ⟨T10, X10, e10, st10⟩ := callPure X9 hx hZ (y := (⟨"com/example/proxysmith/proxysmith/BytesU2AtPinLaw", "expect", "(IIIII)I"⟩ : MethodName)) hown (hw _ (List.mem_of_getElem? (i := 60) rfl)) (hw _ (List.mem_of_getElem? (i := 61) rfl)) (hw _ (List.mem_of_getElem? (i := 62) rfl)) (hw _ (List.mem_of_getElem? (i := 63) rfl)) (by decide) (W := 1) (argsL := [(.int (2 : Int32)), (.int (Int32.ofNat kk)), (.int p3), (.int p1), (.int p2)]) (rest := [(.int ((g7 (2)) &&& (255 : Int32)))]) (r := (.int (f12 (2 : Int32) (Int32.ofNat kk) p3 p1 p2))) (fun _ _ _ q => q) (rm12 l Z a0 hw [] (2 : Int32) (Int32.ofNat kk) p3 p1 p2 h7 ) (by decide) (by decide) (by decide) (by decide) e9 (g := (mkF m 131 #[.val (.int p1), .val (.int p2), .val (.int p3), .val (.int p4), .val (.int p5), .val (.int (Int32.ofNat n)), .val (.int (Int32.ofNat kk)), .val (.ref b1), .val (.int (Int32.ofNat 6)), .val (.ref r7)] [(.int p2), (.int p1), (.int p3), (.int (Int32.ofNat kk)), (.int (2 : Int32)), (.int ((g7 (2)) &&& (255 : Int32)))])) rfl (by rw [hml]; rfl) (lenOf pd_0_4 rfl) rfl (by show 2 * 0 + _ ≤ _; exact Nat.le_of_eq rfl) (hb hby at_131)
    refine Goes.step st10 ?_
    show Goes p e below s _ _ _ T10 (mkF m 134 #[.val (.int p1), .val (.int p2), .val (.int p3), .val (.int p4), .val (.int p5), .val (.int (Int32.ofNat n)), .val (.int (Int32.ofNat kk)), .val (.ref b1), .val (.int (Int32.ofNat 6)), .val (.ref r7)] [(.int (f12 (2 : Int32) (Int32.ofNat kk) p3 p1 p2)), (.int ((g7 (2)) &&& (255 : Int32)))])
    refine Goes.step (fun _ k => XS.icmpNo X10.here hx rfl (hb hby at_134) rfl (teq (own_fin2 p1 p2 p3 kk hk ((hf4 2 (by omega)).trans hx3) (hg7 2 (by omega)))).2 k) ?_
    show Goes p e below s _ _ _ T10 (mkF m 137 #[.val (.int p1), .val (.int p2), .val (.int p3), .val (.int p4), .val (.int p5), .val (.int (Int32.ofNat n)), .val (.int (Int32.ofNat kk)), .val (.ref b1), .val (.int (Int32.ofNat 6)), .val (.ref r7)] [])
    refine Goes.step (fun _ k => XS.aload X10.here hx rfl (hb hby at_137) rfl rfl k) ?_
    show Goes p e below s _ _ _ T10 (mkF m 139 #[.val (.int p1), .val (.int p2), .val (.int p3), .val (.int p4), .val (.int p5), .val (.int (Int32.ofNat n)), .val (.int (Int32.ofNat kk)), .val (.ref b1), .val (.int (Int32.ofNat 6)), .val (.ref r7)] [(.ref r7)])
    refine Goes.step (fun _ k => XS.iconst X10.here hx rfl (hb hby at_139) k) ?_
    show Goes p e below s _ _ _ T10 (mkF m 140 #[.val (.int p1), .val (.int p2), .val (.int p3), .val (.int p4), .val (.int p5), .val (.int (Int32.ofNat n)), .val (.int (Int32.ofNat kk)), .val (.ref b1), .val (.int (Int32.ofNat 6)), .val (.ref r7)] [(.int (3 : Int32)), (.ref r7)])
    refine Goes.step (fun _ k => rdB X10 hx hZ e10 hA7 (3) rfl (by decide) (g := (mkF m 140 #[.val (.int p1), .val (.int p2), .val (.int p3), .val (.int p4), .val (.int p5), .val (.int (Int32.ofNat n)), .val (.int (Int32.ofNat kk)), .val (.ref b1), .val (.int (Int32.ofNat 6)), .val (.ref r7)] [(.int (3 : Int32)), (.ref r7)])) rfl rfl (hb hby at_140) _ k) ?_
    show Goes p e below s _ _ _ T10 (mkF m 141 #[.val (.int p1), .val (.int p2), .val (.int p3), .val (.int p4), .val (.int p5), .val (.int (Int32.ofNat n)), .val (.int (Int32.ofNat kk)), .val (.ref b1), .val (.int (Int32.ofNat 6)), .val (.ref r7)] [(.int (g7 (3)))])
    refine Goes.step (fun _ k => XS.sipush X10.here hx rfl (hb hby at_141) k) ?_
    show Goes p e below s _ _ _ T10 (mkF m 144 #[.val (.int p1), .val (.int p2), .val (.int p3), .val (.int p4), .val (.int p5), .val (.int (Int32.ofNat n)), .val (.int (Int32.ofNat kk)), .val (.ref b1), .val (.int (Int32.ofNat 6)), .val (.ref r7)] [(.int (255 : Int32)), (.int (g7 (3)))])
    refine Goes.step (fun _ k => XS.iand X10.here hx rfl (hb hby at_144) rfl k) ?_
    show Goes p e below s _ _ _ T10 (mkF m 145 #[.val (.int p1), .val (.int p2), .val (.int p3), .val (.int p4), .val (.int p5), .val (.int (Int32.ofNat n)), .val (.int (Int32.ofNat kk)), .val (.ref b1), .val (.int (Int32.ofNat 6)), .val (.ref r7)] [(.int ((g7 (3)) &&& (255 : Int32)))])
    refine Goes.step (fun _ k => XS.iconst X10.here hx rfl (hb hby at_145) k) ?_
    show Goes p e below s _ _ _ T10 (mkF m 146 #[.val (.int p1), .val (.int p2), .val (.int p3), .val (.int p4), .val (.int p5), .val (.int (Int32.ofNat n)), .val (.int (Int32.ofNat kk)), .val (.ref b1), .val (.int (Int32.ofNat 6)), .val (.ref r7)] [(.int (3 : Int32)), (.int ((g7 (3)) &&& (255 : Int32)))])
    refine Goes.step (fun _ k => XS.iload X10.here hx rfl (hb hby at_146) rfl k) ?_
    show Goes p e below s _ _ _ T10 (mkF m 148 #[.val (.int p1), .val (.int p2), .val (.int p3), .val (.int p4), .val (.int p5), .val (.int (Int32.ofNat n)), .val (.int (Int32.ofNat kk)), .val (.ref b1), .val (.int (Int32.ofNat 6)), .val (.ref r7)] [(.int (Int32.ofNat kk)), (.int (3 : Int32)), (.int ((g7 (3)) &&& (255 : Int32)))])
    refine Goes.step (fun _ k => XS.iloadN X10.here hx rfl (hb hby at_148) rfl k) ?_
    show Goes p e below s _ _ _ T10 (mkF m 149 #[.val (.int p1), .val (.int p2), .val (.int p3), .val (.int p4), .val (.int p5), .val (.int (Int32.ofNat n)), .val (.int (Int32.ofNat kk)), .val (.ref b1), .val (.int (Int32.ofNat 6)), .val (.ref r7)] [(.int p3), (.int (Int32.ofNat kk)), (.int (3 : Int32)), (.int ((g7 (3)) &&& (255 : Int32)))])
    refine Goes.step (fun _ k => XS.iloadN X10.here hx rfl (hb hby at_149) rfl k) ?_
    show Goes p e below s _ _ _ T10 (mkF m 150 #[.val (.int p1), .val (.int p2), .val (.int p3), .val (.int p4), .val (.int p5), .val (.int (Int32.ofNat n)), .val (.int (Int32.ofNat kk)), .val (.ref b1), .val (.int (Int32.ofNat 6)), .val (.ref r7)] [(.int p1), (.int p3), (.int (Int32.ofNat kk)), (.int (3 : Int32)), (.int ((g7 (3)) &&& (255 : Int32)))])
    refine Goes.step (fun _ k => XS.iloadN X10.here hx rfl (hb hby at_150) rfl k) ?_
    show Goes p e below s _ _ _ T10 (mkF m 151 #[.val (.int p1), .val (.int p2), .val (.int p3), .val (.int p4), .val (.int p5), .val (.int (Int32.ofNat n)), .val (.int (Int32.ofNat kk)), .val (.ref b1), .val (.int (Int32.ofNat 6)), .val (.ref r7)] [(.int p2), (.int p1), (.int p3), (.int (Int32.ofNat kk)), (.int (3 : Int32)), (.int ((g7 (3)) &&& (255 : Int32)))])
    obtain ⟨T11, X11, e11, st11⟩ := callPure X10 hx hZ (y := (⟨"com/example/proxysmith/proxysmith/BytesU2AtPinLaw", "expect", "(IIIII)I"⟩ : MethodName)) hown (hw _ (List.mem_of_getElem? (i := 60) rfl)) (hw _ (List.mem_of_getElem? (i := 61) rfl)) (hw _ (List.mem_of_getElem? (i := 62) rfl)) (hw _ (List.mem_of_getElem? (i := 63) rfl)) (by decide) (W := 1) (argsL := [(.int (3 : Int32)), (.int (Int32.ofNat kk)), (.int p3), (.int p1), (.int p2)]) (rest := [(.int ((g7 (3)) &&& (255 : Int32)))]) (r := (.int (f12 (3 : Int32) (Int32.ofNat kk) p3 p1 p2))) (fun _ _ _ q => q) (rm12 l Z a0 hw [] (3 : Int32) (Int32.ofNat kk) p3 p1 p2 h7 ) (by decide) (by decide) (by decide) (by decide) e10 (g := (mkF m 151 #[.val (.int p1), .val (.int p2), .val (.int p3), .val (.int p4), .val (.int p5), .val (.int (Int32.ofNat n)), .val (.int (Int32.ofNat kk)), .val (.ref b1), .val (.int (Int32.ofNat 6)), .val (.ref r7)] [(.int p2), (.int p1), (.int p3), (.int (Int32.ofNat kk)), (.int (3 : Int32)), (.int ((g7 (3)) &&& (255 : Int32)))])) rfl (by rw [hml]; rfl) (lenOf pd_0_4 rfl) rfl (by show 2 * 0 + _ ≤ _; exact Nat.le_of_eq rfl) (hb hby at_151)
    refine Goes.step st11 ?_
    show Goes p e below s _ _ _ T11 (mkF m 154 #[.val (.int p1), .val (.int p2), .val (.int p3), .val (.int p4), .val (.int p5), .val (.int (Int32.ofNat n)), .val (.int (Int32.ofNat kk)), .val (.ref b1), .val (.int (Int32.ofNat 6)), .val (.ref r7)] [(.int (f12 (3 : Int32) (Int32.ofNat kk) p3 p1 p2)), (.int ((g7 (3)) &&& (255 : Int32)))])
    refine Goes.step (fun _ k => XS.icmpNo X11.here hx rfl (hb hby at_154) rfl (teq (own_fin3 p1 p2 p3 kk hk ((hf4 3 (by omega)).trans hy3) (hg7 3 (by omega)))).2 k) ?_
    show Goes p e below s _ _ _ T11 (mkF m 157 #[.val (.int p1), .val (.int p2), .val (.int p3), .val (.int p4), .val (.int p5), .val (.int (Int32.ofNat n)), .val (.int (Int32.ofNat kk)), .val (.ref b1), .val (.int (Int32.ofNat 6)), .val (.ref r7)] [])
    refine Goes.step (fun _ k => XS.aload X11.here hx rfl (hb hby at_157) rfl rfl k) ?_
    show Goes p e below s _ _ _ T11 (mkF m 159 #[.val (.int p1), .val (.int p2), .val (.int p3), .val (.int p4), .val (.int p5), .val (.int (Int32.ofNat n)), .val (.int (Int32.ofNat kk)), .val (.ref b1), .val (.int (Int32.ofNat 6)), .val (.ref r7)] [(.ref r7)])
    refine Goes.step (fun _ k => XS.iconst X11.here hx rfl (hb hby at_159) k) ?_
    show Goes p e below s _ _ _ T11 (mkF m 160 #[.val (.int p1), .val (.int p2), .val (.int p3), .val (.int p4), .val (.int p5), .val (.int (Int32.ofNat n)), .val (.int (Int32.ofNat kk)), .val (.ref b1), .val (.int (Int32.ofNat 6)), .val (.ref r7)] [(.int (4 : Int32)), (.ref r7)])
    refine Goes.step (fun _ k => rdB X11 hx hZ e11 hA7 (4) rfl (by decide) (g := (mkF m 160 #[.val (.int p1), .val (.int p2), .val (.int p3), .val (.int p4), .val (.int p5), .val (.int (Int32.ofNat n)), .val (.int (Int32.ofNat kk)), .val (.ref b1), .val (.int (Int32.ofNat 6)), .val (.ref r7)] [(.int (4 : Int32)), (.ref r7)])) rfl rfl (hb hby at_160) _ k) ?_
    show Goes p e below s _ _ _ T11 (mkF m 161 #[.val (.int p1), .val (.int p2), .val (.int p3), .val (.int p4), .val (.int p5), .val (.int (Int32.ofNat n)), .val (.int (Int32.ofNat kk)), .val (.ref b1), .val (.int (Int32.ofNat 6)), .val (.ref r7)] [(.int (g7 (4)))])
    as_aux_lemma =>
      refine Goes.step (fun _ k => XS.sipush X11.here hx rfl (hb hby at_161) k) ?_
      show Goes p e below s _ _ _ T11 (mkF m 164 #[.val (.int p1), .val (.int p2), .val (.int p3), .val (.int p4), .val (.int p5), .val (.int (Int32.ofNat n)), .val (.int (Int32.ofNat kk)), .val (.ref b1), .val (.int (Int32.ofNat 6)), .val (.ref r7)] [(.int (255 : Int32)), (.int (g7 (4)))])
      refine Goes.step (fun _ k => XS.iand X11.here hx rfl (hb hby at_164) rfl k) ?_
      show Goes p e below s _ _ _ T11 (mkF m 165 #[.val (.int p1), .val (.int p2), .val (.int p3), .val (.int p4), .val (.int p5), .val (.int (Int32.ofNat n)), .val (.int (Int32.ofNat kk)), .val (.ref b1), .val (.int (Int32.ofNat 6)), .val (.ref r7)] [(.int ((g7 (4)) &&& (255 : Int32)))])
      refine Goes.step (fun _ k => XS.iconst X11.here hx rfl (hb hby at_165) k) ?_
      show Goes p e below s _ _ _ T11 (mkF m 166 #[.val (.int p1), .val (.int p2), .val (.int p3), .val (.int p4), .val (.int p5), .val (.int (Int32.ofNat n)), .val (.int (Int32.ofNat kk)), .val (.ref b1), .val (.int (Int32.ofNat 6)), .val (.ref r7)] [(.int (4 : Int32)), (.int ((g7 (4)) &&& (255 : Int32)))])
      refine Goes.step (fun _ k => XS.iload X11.here hx rfl (hb hby at_166) rfl k) ?_
      show Goes p e below s _ _ _ T11 (mkF m 168 #[.val (.int p1), .val (.int p2), .val (.int p3), .val (.int p4), .val (.int p5), .val (.int (Int32.ofNat n)), .val (.int (Int32.ofNat kk)), .val (.ref b1), .val (.int (Int32.ofNat 6)), .val (.ref r7)] [(.int (Int32.ofNat kk)), (.int (4 : Int32)), (.int ((g7 (4)) &&& (255 : Int32)))])
      refine Goes.step (fun _ k => XS.iloadN X11.here hx rfl (hb hby at_168) rfl k) ?_
      show Goes p e below s _ _ _ T11 (mkF m 169 #[.val (.int p1), .val (.int p2), .val (.int p3), .val (.int p4), .val (.int p5), .val (.int (Int32.ofNat n)), .val (.int (Int32.ofNat kk)), .val (.ref b1), .val (.int (Int32.ofNat 6)), .val (.ref r7)] [(.int p3), (.int (Int32.ofNat kk)), (.int (4 : Int32)), (.int ((g7 (4)) &&& (255 : Int32)))])
      refine Goes.step (fun _ k => XS.iloadN X11.here hx rfl (hb hby at_169) rfl k) ?_
      show Goes p e below s _ _ _ T11 (mkF m 170 #[.val (.int p1), .val (.int p2), .val (.int p3), .val (.int p4), .val (.int p5), .val (.int (Int32.ofNat n)), .val (.int (Int32.ofNat kk)), .val (.ref b1), .val (.int (Int32.ofNat 6)), .val (.ref r7)] [(.int p1), (.int p3), (.int (Int32.ofNat kk)), (.int (4 : Int32)), (.int ((g7 (4)) &&& (255 : Int32)))])
      refine Goes.step (fun _ k => XS.iloadN X11.here hx rfl (hb hby at_170) rfl k) ?_
      show Goes p e below s _ _ _ T11 (mkF m 171 #[.val (.int p1), .val (.int p2), .val (.int p3), .val (.int p4), .val (.int p5), .val (.int (Int32.ofNat n)), .val (.int (Int32.ofNat kk)), .val (.ref b1), .val (.int (Int32.ofNat 6)), .val (.ref r7)] [(.int p2), (.int p1), (.int p3), (.int (Int32.ofNat kk)), (.int (4 : Int32)), (.int ((g7 (4)) &&& (255 : Int32)))])
      obtain ⟨T12, X12, e12, st12⟩ := callPure X11 hx hZ (y := (⟨"com/example/proxysmith/proxysmith/BytesU2AtPinLaw", "expect", "(IIIII)I"⟩ : MethodName)) hown (hw _ (List.mem_of_getElem? (i := 60) rfl)) (hw _ (List.mem_of_getElem? (i := 61) rfl)) (hw _ (List.mem_of_getElem? (i := 62) rfl)) (hw _ (List.mem_of_getElem? (i := 63) rfl)) (by decide) (W := 1) (argsL := [(.int (4 : Int32)), (.int (Int32.ofNat kk)), (.int p3), (.int p1), (.int p2)]) (rest := [(.int ((g7 (4)) &&& (255 : Int32)))]) (r := (.int (f12 (4 : Int32) (Int32.ofNat kk) p3 p1 p2))) (fun _ _ _ q => q) (rm12 l Z a0 hw [] (4 : Int32) (Int32.ofNat kk) p3 p1 p2 h7 ) (by decide) (by decide) (by decide) (by decide) e11 (g := (mkF m 171 #[.val (.int p1), .val (.int p2), .val (.int p3), .val (.int p4), .val (.int p5), .val (.int (Int32.ofNat n)), .val (.int (Int32.ofNat kk)), .val (.ref b1), .val (.int (Int32.ofNat 6)), .val (.ref r7)] [(.int p2), (.int p1), (.int p3), (.int (Int32.ofNat kk)), (.int (4 : Int32)), (.int ((g7 (4)) &&& (255 : Int32)))])) rfl (by rw [hml]; rfl) (lenOf pd_0_4 rfl) rfl (by show 2 * 0 + _ ≤ _; exact Nat.le_of_eq rfl) (hb hby at_171)
      refine Goes.step st12 ?_
      show Goes p e below s _ _ _ T12 (mkF m 174 #[.val (.int p1), .val (.int p2), .val (.int p3), .val (.int p4), .val (.int p5), .val (.int (Int32.ofNat n)), .val (.int (Int32.ofNat kk)), .val (.ref b1), .val (.int (Int32.ofNat 6)), .val (.ref r7)] [(.int (f12 (4 : Int32) (Int32.ofNat kk) p3 p1 p2)), (.int ((g7 (4)) &&& (255 : Int32)))])
      refine Goes.step (fun _ k => XS.icmpNo X12.here hx rfl (hb hby at_174) rfl (teq (own_fin4 p1 p2 p3 kk hk hv4 (hg7 4 (by omega)))).2 k) ?_
      show Goes p e below s _ _ _ T12 (mkF m 177 #[.val (.int p1), .val (.int p2), .val (.int p3), .val (.int p4), .val (.int p5), .val (.int (Int32.ofNat n)), .val (.int (Int32.ofNat kk)), .val (.ref b1), .val (.int (Int32.ofNat 6)), .val (.ref r7)] [])
      refine Goes.step (fun _ k => XS.aload X12.here hx rfl (hb hby at_177) rfl rfl k) ?_
      show Goes p e below s _ _ _ T12 (mkF m 179 #[.val (.int p1), .val (.int p2), .val (.int p3), .val (.int p4), .val (.int p5), .val (.int (Int32.ofNat n)), .val (.int (Int32.ofNat kk)), .val (.ref b1), .val (.int (Int32.ofNat 6)), .val (.ref r7)] [(.ref r7)])
      refine Goes.step (fun _ k => XS.iconst X12.here hx rfl (hb hby at_179) k) ?_
      show Goes p e below s _ _ _ T12 (mkF m 180 #[.val (.int p1), .val (.int p2), .val (.int p3), .val (.int p4), .val (.int p5), .val (.int (Int32.ofNat n)), .val (.int (Int32.ofNat kk)), .val (.ref b1), .val (.int (Int32.ofNat 6)), .val (.ref r7)] [(.int (5 : Int32)), (.ref r7)])
      refine Goes.step (fun _ k => rdB X12 hx hZ e12 hA7 (5) rfl (by decide) (g := (mkF m 180 #[.val (.int p1), .val (.int p2), .val (.int p3), .val (.int p4), .val (.int p5), .val (.int (Int32.ofNat n)), .val (.int (Int32.ofNat kk)), .val (.ref b1), .val (.int (Int32.ofNat 6)), .val (.ref r7)] [(.int (5 : Int32)), (.ref r7)])) rfl rfl (hb hby at_180) _ k) ?_
      show Goes p e below s _ _ _ T12 (mkF m 181 #[.val (.int p1), .val (.int p2), .val (.int p3), .val (.int p4), .val (.int p5), .val (.int (Int32.ofNat n)), .val (.int (Int32.ofNat kk)), .val (.ref b1), .val (.int (Int32.ofNat 6)), .val (.ref r7)] [(.int (g7 (5)))])
      refine Goes.step (fun _ k => XS.sipush X12.here hx rfl (hb hby at_181) k) ?_
      show Goes p e below s _ _ _ T12 (mkF m 184 #[.val (.int p1), .val (.int p2), .val (.int p3), .val (.int p4), .val (.int p5), .val (.int (Int32.ofNat n)), .val (.int (Int32.ofNat kk)), .val (.ref b1), .val (.int (Int32.ofNat 6)), .val (.ref r7)] [(.int (255 : Int32)), (.int (g7 (5)))])
      refine Goes.step (fun _ k => XS.iand X12.here hx rfl (hb hby at_184) rfl k) ?_
      show Goes p e below s _ _ _ T12 (mkF m 185 #[.val (.int p1), .val (.int p2), .val (.int p3), .val (.int p4), .val (.int p5), .val (.int (Int32.ofNat n)), .val (.int (Int32.ofNat kk)), .val (.ref b1), .val (.int (Int32.ofNat 6)), .val (.ref r7)] [(.int ((g7 (5)) &&& (255 : Int32)))])
      refine Goes.step (fun _ k => XS.iconst X12.here hx rfl (hb hby at_185) k) ?_
      show Goes p e below s _ _ _ T12 (mkF m 186 #[.val (.int p1), .val (.int p2), .val (.int p3), .val (.int p4), .val (.int p5), .val (.int (Int32.ofNat n)), .val (.int (Int32.ofNat kk)), .val (.ref b1), .val (.int (Int32.ofNat 6)), .val (.ref r7)] [(.int (5 : Int32)), (.int ((g7 (5)) &&& (255 : Int32)))])
      refine Goes.step (fun _ k => XS.iload X12.here hx rfl (hb hby at_186) rfl k) ?_
      show Goes p e below s _ _ _ T12 (mkF m 188 #[.val (.int p1), .val (.int p2), .val (.int p3), .val (.int p4), .val (.int p5), .val (.int (Int32.ofNat n)), .val (.int (Int32.ofNat kk)), .val (.ref b1), .val (.int (Int32.ofNat 6)), .val (.ref r7)] [(.int (Int32.ofNat kk)), (.int (5 : Int32)), (.int ((g7 (5)) &&& (255 : Int32)))])
      refine Goes.step (fun _ k => XS.iloadN X12.here hx rfl (hb hby at_188) rfl k) ?_
      show Goes p e below s _ _ _ T12 (mkF m 189 #[.val (.int p1), .val (.int p2), .val (.int p3), .val (.int p4), .val (.int p5), .val (.int (Int32.ofNat n)), .val (.int (Int32.ofNat kk)), .val (.ref b1), .val (.int (Int32.ofNat 6)), .val (.ref r7)] [(.int p3), (.int (Int32.ofNat kk)), (.int (5 : Int32)), (.int ((g7 (5)) &&& (255 : Int32)))])
      refine Goes.step (fun _ k => XS.iloadN X12.here hx rfl (hb hby at_189) rfl k) ?_
      show Goes p e below s _ _ _ T12 (mkF m 190 #[.val (.int p1), .val (.int p2), .val (.int p3), .val (.int p4), .val (.int p5), .val (.int (Int32.ofNat n)), .val (.int (Int32.ofNat kk)), .val (.ref b1), .val (.int (Int32.ofNat 6)), .val (.ref r7)] [(.int p1), (.int p3), (.int (Int32.ofNat kk)), (.int (5 : Int32)), (.int ((g7 (5)) &&& (255 : Int32)))])
      refine Goes.step (fun _ k => XS.iloadN X12.here hx rfl (hb hby at_190) rfl k) ?_
      show Goes p e below s _ _ _ T12 (mkF m 191 #[.val (.int p1), .val (.int p2), .val (.int p3), .val (.int p4), .val (.int p5), .val (.int (Int32.ofNat n)), .val (.int (Int32.ofNat kk)), .val (.ref b1), .val (.int (Int32.ofNat 6)), .val (.ref r7)] [(.int p2), (.int p1), (.int p3), (.int (Int32.ofNat kk)), (.int (5 : Int32)), (.int ((g7 (5)) &&& (255 : Int32)))])
      obtain ⟨T13, X13, e13, st13⟩ := callPure X12 hx hZ (y := (⟨"com/example/proxysmith/proxysmith/BytesU2AtPinLaw", "expect", "(IIIII)I"⟩ : MethodName)) hown (hw _ (List.mem_of_getElem? (i := 60) rfl)) (hw _ (List.mem_of_getElem? (i := 61) rfl)) (hw _ (List.mem_of_getElem? (i := 62) rfl)) (hw _ (List.mem_of_getElem? (i := 63) rfl)) (by decide) (W := 1) (argsL := [(.int (5 : Int32)), (.int (Int32.ofNat kk)), (.int p3), (.int p1), (.int p2)]) (rest := [(.int ((g7 (5)) &&& (255 : Int32)))]) (r := (.int (f12 (5 : Int32) (Int32.ofNat kk) p3 p1 p2))) (fun _ _ _ q => q) (rm12 l Z a0 hw [] (5 : Int32) (Int32.ofNat kk) p3 p1 p2 h7 ) (by decide) (by decide) (by decide) (by decide) e12 (g := (mkF m 191 #[.val (.int p1), .val (.int p2), .val (.int p3), .val (.int p4), .val (.int p5), .val (.int (Int32.ofNat n)), .val (.int (Int32.ofNat kk)), .val (.ref b1), .val (.int (Int32.ofNat 6)), .val (.ref r7)] [(.int p2), (.int p1), (.int p3), (.int (Int32.ofNat kk)), (.int (5 : Int32)), (.int ((g7 (5)) &&& (255 : Int32)))])) rfl (by rw [hml]; rfl) (lenOf pd_0_4 rfl) rfl (by show 2 * 0 + _ ≤ _; exact Nat.le_of_eq rfl) (hb hby at_191)
      refine Goes.step st13 ?_
      show Goes p e below s _ _ _ T13 (mkF m 194 #[.val (.int p1), .val (.int p2), .val (.int p3), .val (.int p4), .val (.int p5), .val (.int (Int32.ofNat n)), .val (.int (Int32.ofNat kk)), .val (.ref b1), .val (.int (Int32.ofNat 6)), .val (.ref r7)] [(.int (f12 (5 : Int32) (Int32.ofNat kk) p3 p1 p2)), (.int ((g7 (5)) &&& (255 : Int32)))])
      refine Goes.step (fun _ k => XS.icmpNo X13.here hx rfl (hb hby at_194) rfl (teq (own_fin5 p1 p2 p3 kk hk hu4 (hg7 5 (by omega)))).2 k) ?_
      show Goes p e below s _ _ _ T13 (mkF m 197 #[.val (.int p1), .val (.int p2), .val (.int p3), .val (.int p4), .val (.int p5), .val (.int (Int32.ofNat n)), .val (.int (Int32.ofNat kk)), .val (.ref b1), .val (.int (Int32.ofNat 6)), .val (.ref r7)] [])
      refine Goes.step (fun _ k => XS.iconst X13.here hx rfl (hb hby at_197) k) ?_
      show Goes p e below s _ _ _ T13 (mkF m 198 #[.val (.int p1), .val (.int p2), .val (.int p3), .val (.int p4), .val (.int p5), .val (.int (Int32.ofNat n)), .val (.int (Int32.ofNat kk)), .val (.ref b1), .val (.int (Int32.ofNat 6)), .val (.ref r7)] [(.int (1 : Int32))])
      refine Goes.step (fun _ k => XS.goto X13.here hx rfl (pc0 := 198) (pc' := 202) rfl (hb hby at_198) (by decide) (by decide) k) ?_
      show Goes p e below s _ _ _ T13 (mkF m 202 #[.val (.int p1), .val (.int p2), .val (.int p3), .val (.int p4), .val (.int p5), .val (.int (Int32.ofNat n)), .val (.int (Int32.ofNat kk)), .val (.ref b1), .val (.int (Int32.ofNat 6)), .val (.ref r7)] [(.int (1 : Int32))])
      exact Goes.outN X13 hx hlk (t := .boolean) Bd.returns (by simp) (hb hby at_202) ⟨rfl, N_7⟩ (by decide) (by decide)
set_option maxRecDepth 65536 in
set_option maxHeartbeats 40000000 in
theorem comes_1 {Post : Tables → Env → Array Value → State → Outcome → State → Prop} (hpost : ∀ tb e args s v u, (limb_1_1.after args s (.returned v) u = true ∧ limb_1_2.after args s (.returned v) u = true ∧ True) → FrameEnd s (.returned v) u (Jvm.fieldLocs frame_1_writes args s ++ Jvm.arrayLocs frame_1_arrays args s ++ Jvm.staticLocs frame_1_statics s) 24 128 → Post tb e args s (.returned v) u) :
    ArmFor flags0 classFile x code maxLocals ret World_1 tables_1 room_1 Calls_1 rest_1 Pre_1 Post := by
  intro l hfl _ _ p e ha hc hk s m args below hf hA hF happ hP
  obtain ⟨hcalls, hrest, hpre⟩ := hP
  obtain ⟨-, -, -, hnamed, -, -, -, hat⟩ := (Spec.applies_iff hf).mp happ
  obtain ⟨hg, hn⟩ := and_e (Cond.before_iff.mp (show (Jvm.Cond.and given_1 narrow_1).before args s = true from hpre))
  obtain ⟨hcnt, g0⟩ := and_e hg
  obtain ⟨i0, g1⟩ := and_e g0
  obtain ⟨i1, g2⟩ := and_e g1
  obtain ⟨i2, g3⟩ := and_e g2
  obtain ⟨i3, g4⟩ := and_e g3
  have i4 := g4
  obtain ⟨w0, w1, w2, w3, w4, rfl⟩ : ∃ w0 w1 w2 w3 w4 : Value, args = #[w0, w1, w2, w3, w4] := by
    have hs : args.size = 5 := by simpa [Cond.value, given_1] using hcnt
    obtain ⟨L⟩ := args
    match L, hs with
    | [w0, w1, w2, w3, w4], _ => exact ⟨w0, w1, w2, w3, w4, rfl⟩
  have hw := fun d (hd : d ∈ tables_1) => atoms_spec (ws := Jvm.Cond.code x code maxLocals ret :: tables_1) hat d (List.mem_cons_of_mem _ hd)
  obtain ⟨z0, e0⟩ := is_v i0
  obtain rfl : w0 = (.int z0) := Option.some.inj e0
  obtain ⟨z1, e1⟩ := is_v i1
  obtain rfl : w1 = (.int z1) := Option.some.inj e1
  obtain ⟨z2, e2⟩ := is_v i2
  obtain rfl : w2 = (.int z2) := Option.some.inj e2
  obtain ⟨z3, e3⟩ := is_v i3
  obtain rfl : w3 = (.int z3) := Option.some.inj e3
  obtain ⟨z4, e4⟩ := is_v i4
  obtain rfl : w4 = (.int z4) := Option.some.inj e4
  obtain ⟨n, o, h1, h2, h3, v, L, rfl, ⟨rfl, N⟩, hq⟩ := rm0 l s _ hw tables_1 z0 z1 z2 z3 z4  s.heap s.heap.size (Nat.le_refl _)  p e ha hc hk s m _ below hf ((Spec.applies_iff_loose hf).mp happ).1 ⟨rfl, State.Warmed39.refl s, rfl⟩ trivial
  refine ⟨n, _, h1, h2, h3, hpost _ _ _ _ _ _ ⟨Cond.after_iff.mpr rfl, Cond.after_iff.mpr (eq_i res_at (Term.int_eval (1)) rfl), trivial⟩ ⟨hq.1, hq.2.1, (hq.2.2.sift fun y hy => Or.inr (N y hy)).mono (by decide) (by decide)⟩⟩
theorem main_1_1 : Claimed_1_1 := comes_1 fun _ _ _ _ _ _ h hF => ⟨h.1, hF⟩
theorem main_1_2 : Claimed_1_2 := comes_1 fun _ _ _ _ _ _ h hF => ⟨h.2.1, hF⟩
end Jvm.Pilot.@@N@@
namespace Jvm.Pilot.@@N@@
open Jvm Jvm.ClassFile Sem Op Lib Jvm.Free Jvm.Stand Jvm.Pilot.@@N@@.Jvm.D
/-! MADE BY PROGRAM (witnessworld.py) out of the Statement's table words and the real class files: 10 classes; the members and pool entries that the words name. The judged class is class 1, her method 2. -/
namespace start1
open Jvm.ClassFile
def u (s : String) : CpInfo := .utf8 (stringToUtf16 s)
/-- a pool by its gaps: so many unusable entries, then the entry; so many at the end -/
def gap : Nat → List CpInfo → List CpInfo
  | 0, r => r
  | n + 1, r => .unusable :: gap n r
def poolList (es : List (Nat × CpInfo)) (last : Nat) : List CpInfo := es.foldr (fun e r => gap e.1 (e.2 :: r)) (gap last [])
def pool (es : List (Nat × CpInfo)) (last : Nat) : Array CpInfo := ⟨poolList es last⟩
def fileOf (pool : Array CpInfo) (this : Nat) (attrs : Array Attribute := #[]) (ms : Array MethodInfo := #[]) (fl : Nat := 33) (sup : Nat := 0) (ifs : Array Nat := #[]) (fds : Array FieldInfo := #[]) : ClassFile where
  minorVersion := 0
  majorVersion := 65
  constantPool := pool
  accessFlags := fl
  thisClass := this
  superClass := sup
  interfaces := ifs
  fields := fds
  methods := ms
  attributes := attrs
def plain (name : String) (sup : Option ClassId) : Class where
  name := name
  kind := .ordinary
  loader := none
  accessFlags := 33
  super := sup
  interfaces := #[]
  cf := none
  fields := #[]
  methods := #[]
  instanceTypes := #[]
  staticTypes := #[]
  resolved := #[]
  callSites := []
  init := .initialized
  statics := none
  mirror := none

def pool0 : Array CpInfo := pool [(5, u "<init>"), (0, u "()V"), (1, .class_ 10), (1, u "java/lang/Object")] 113

def k0c0 : Code := { maxStack := 0, maxLocals := 1, code := object_method_1_code, exceptionTable := #[], attributes := #[] }
def k0m0 : Method := { name := "<init>", desc := "()V", sig := { parameters := [], returnType := none }, accessFlags := 1, code := some k0c0 }
/-- java/lang/Object -/
def k0 : Class := { plain "java/lang/Object" none with
  accessFlags := 33
  interfaces := #[]
  cf := some (fileOf pool0 8 #[] #[{ accessFlags := 1, nameIndex := 5, descriptorIndex := 6, attributes := #[] }] 33 0 #[] #[])
  fields := #[]
  methods := #[k0m0]
  instanceTypes := #[]
  staticTypes := #[]
  resolved := Array.replicate 124 none
  statics := none }

def pool1 : Array CpInfo := pool [(2, .class_ 4), (1, u "java/lang/Object"), (0, u "<init>"), (0, u "()V"), (0, .integer 65280), (0, .integer 2147483647), (0, .class_ 10), (0, u "com/example/proxysmith/proxysmith/ClassFileWriter$Bytes"), (0, .methodref 9 12), (0, .nameAndType 5 13), (0, u "(I)V"), (0, .methodref 9 15), (0, .nameAndType 16 13), (0, u "u4"), (0, .methodref 9 18), (0, .nameAndType 19 13), (0, u "u2"), (0, .methodref 9 21), (0, .nameAndType 22 23), (0, u "u2At"), (0, u "(II)V"), (0, .methodref 9 25), (0, .nameAndType 26 27), (0, u "size"), (0, u "()I"), (0, .methodref 9 29), (0, .nameAndType 30 31), (0, u "toByteArray"), (0, u "()[B"), (0, .methodref 33 34), (0, .class_ 35), (0, .nameAndType 36 37), (0, u "com/example/proxysmith/proxysmith/BytesU2AtPinLaw"), (0, u "expect"), (0, u "(IIIII)I"), (3, u "law"), (0, u "(IIIII)Z")] 8

def k1m0 : Method := { name := "<init>", desc := "()V", sig := { parameters := [], returnType := none }, accessFlags := 1, code := none }
def k1c1 : Code := { maxStack := 4, maxLocals := 5, code := method_2_code, exceptionTable := #[], attributes := #[] }
def k1m1 : Method := { name := "expect", desc := "(IIIII)I", sig := { parameters := [.int, .int, .int, .int, .int], returnType := some .int }, accessFlags := 10, code := some k1c1 }
def k1c2 : Code := { maxStack := 6, maxLocals := 10, code := code, exceptionTable := #[], attributes := #[] }
def k1m2 : Method := { name := "law", desc := "(IIIII)Z", sig := { parameters := [.int, .int, .int, .int, .int], returnType := some .boolean }, accessFlags := 9, code := some k1c2 }
/-- com/example/proxysmith/proxysmith/BytesU2AtPinLaw -/
def k1 : Class := { plain "com/example/proxysmith/proxysmith/BytesU2AtPinLaw" (some 0) with
  accessFlags := 49
  interfaces := #[]
  cf := some (fileOf pool1 33 #[] #[{ accessFlags := 1, nameIndex := 5, descriptorIndex := 6, attributes := #[] }, { accessFlags := 10, nameIndex := 36, descriptorIndex := 37, attributes := #[] }, { accessFlags := 9, nameIndex := 41, descriptorIndex := 42, attributes := #[] }] 49 2 #[] #[])
  fields := #[]
  methods := #[k1m0, k1m1, k1m2]
  instanceTypes := #[]
  staticTypes := #[]
  resolved := Array.replicate 51 none
  statics := none }

def pool2 : Array CpInfo := pool [(1, .class_ 2), (0, u "com/example/proxysmith/proxysmith/ClassFileWriter"), (0, .methodref 4 5), (0, .class_ 6), (0, .nameAndType 7 8), (0, u "java/lang/Object"), (0, u "<init>"), (0, u "()V"), (0, .fieldref 10 11), (0, .class_ 12), (0, .nameAndType 13 14), (0, u "com/example/proxysmith/proxysmith/ClassFileWriter$Bytes"), (0, u "bytes"), (0, u "[B"), (0, .methodref 10 16), (0, .nameAndType 17 18), (0, u "room"), (0, u "(I)V"), (0, .fieldref 10 20), (0, .nameAndType 21 22), (0, u "size"), (0, u "I"), (0, .methodref 10 24), (0, .nameAndType 25 18), (0, u "u2"), (11, u "()I"), (18, .methodref 57 58), (0, .class_ 59), (0, .nameAndType 60 61), (0, u "java/util/Arrays"), (0, u "copyOf"), (0, u "([BI)[B"), (0, .methodref 63 64), (0, .class_ 65), (0, .nameAndType 66 67), (0, u "java/lang/Math"), (0, u "max"), (0, u "(II)I"), (3, u "u4"), (2, u "u2At"), (0, u "(II)V"), (2, u "toByteArray"), (0, u "()[B")] 21

def k2c0 : Code := { maxStack := 2, maxLocals := 2, code := prog_13_method_1_code, exceptionTable := #[], attributes := #[] }
def k2m0 : Method := { name := "<init>", desc := "(I)V", sig := { parameters := [.int], returnType := none }, accessFlags := 0, code := some k2c0 }
def k2c1 : Code := { maxStack := 5, maxLocals := 2, code := prog_13_method_3_code, exceptionTable := #[], attributes := #[] }
def k2m1 : Method := { name := "u2", desc := "(I)V", sig := { parameters := [.int], returnType := none }, accessFlags := 0, code := some k2c1 }
def k2c2 : Code := { maxStack := 3, maxLocals := 2, code := prog_13_method_4_code, exceptionTable := #[], attributes := #[] }
def k2m2 : Method := { name := "u4", desc := "(I)V", sig := { parameters := [.int], returnType := none }, accessFlags := 0, code := some k2c2 }
def k2c3 : Code := { maxStack := 4, maxLocals := 3, code := prog_13_method_7_code, exceptionTable := #[], attributes := #[] }
def k2m3 : Method := { name := "u2At", desc := "(II)V", sig := { parameters := [.int, .int], returnType := none }, accessFlags := 0, code := some k2c3 }
def k2c4 : Code := { maxStack := 1, maxLocals := 1, code := prog_13_method_9_code, exceptionTable := #[], attributes := #[] }
def k2m4 : Method := { name := "size", desc := "()I", sig := { parameters := [], returnType := some .int }, accessFlags := 0, code := some k2c4 }
def k2c5 : Code := { maxStack := 2, maxLocals := 1, code := prog_13_method_10_code, exceptionTable := #[], attributes := #[] }
def k2m5 : Method := { name := "toByteArray", desc := "()[B", sig := { parameters := [], returnType := some (.array .byte) }, accessFlags := 0, code := some k2c5 }
def k2c6 : Code := { maxStack := 5, maxLocals := 2, code := prog_13_method_11_code, exceptionTable := #[], attributes := #[] }
def k2m6 : Method := { name := "room", desc := "(I)V", sig := { parameters := [.int], returnType := none }, accessFlags := 2, code := some k2c6 }
/-- com/example/proxysmith/proxysmith/ClassFileWriter$Bytes -/
def k2 : Class := { plain "com/example/proxysmith/proxysmith/ClassFileWriter$Bytes" (some 0) with
  accessFlags := 48
  interfaces := #[]
  cf := some (fileOf pool2 10 #[.nestHost 1] #[{ accessFlags := 0, nameIndex := 7, descriptorIndex := 18, attributes := #[] }, { accessFlags := 0, nameIndex := 25, descriptorIndex := 18, attributes := #[] }, { accessFlags := 0, nameIndex := 71, descriptorIndex := 18, attributes := #[] }, { accessFlags := 0, nameIndex := 74, descriptorIndex := 75, attributes := #[] }, { accessFlags := 0, nameIndex := 21, descriptorIndex := 37, attributes := #[] }, { accessFlags := 0, nameIndex := 78, descriptorIndex := 79, attributes := #[] }, { accessFlags := 2, nameIndex := 17, descriptorIndex := 18, attributes := #[] }] 48 4 #[] #[{ accessFlags := 2, nameIndex := 13, descriptorIndex := 14, attributes := #[] }, { accessFlags := 2, nameIndex := 21, descriptorIndex := 22, attributes := #[] }])
  fields := #[{ name := "bytes", type := (.array .byte), accessFlags := 2, slot := 0, constantValue := 0 }, { name := "size", type := .int, accessFlags := 2, slot := 1, constantValue := 0 }]
  methods := #[k2m0, k2m1, k2m2, k2m3, k2m4, k2m5, k2m6]
  instanceTypes := #[(.array .byte), .int]
  staticTypes := #[]
  resolved := Array.replicate 101 none
  statics := none }

def pool3 : Array CpInfo := pool [(1, .class_ 2), (0, u "java/lang/Math"), (1, .class_ 6), (1, u "java/lang/Object"), (0, u "<init>"), (0, u "()V"), (89, .class_ 100), (1, u "java/lang/Math$RandomNumberGeneratorHolder"), (71, u "negativeZeroFloatBits"), (0, u "J"), (2, u "negativeZeroDoubleBits"), (21, u "max"), (2, u "min"), (43, u "$assertionsDisabled"), (0, u "Z"), (88, u "(II)I"), (2, u "twoToTheDoubleScaleDown"), (0, u "D"), (4, u "twoToTheDoubleScaleUp"), (9, u "E"), (3, u "PI"), (2, u "TAU"), (2, u "DEGREES_TO_RADIANS"), (0, u "RADIANS_TO_DEGREES")] 94

def k3m0 : Method := { name := "<init>", desc := "()V", sig := { parameters := [], returnType := none }, accessFlags := 2, code := none }
def k3c1 : Code := { maxStack := 2, maxLocals := 2, code := jdk_29_method_65_code, exceptionTable := #[], attributes := #[] }
def k3m1 : Method := { name := "max", desc := "(II)I", sig := { parameters := [.int, .int], returnType := some .int }, accessFlags := 9, code := some k3c1 }
def k3c2 : Code := { maxStack := 2, maxLocals := 2, code := jdk_29_method_69_code, exceptionTable := #[], attributes := #[] }
def k3m2 : Method := { name := "min", desc := "(II)I", sig := { parameters := [.int, .int], returnType := some .int }, accessFlags := 9, code := some k3c2 }
/-- java/lang/Math -/
def k3 : Class := { plain "java/lang/Math" (some 0) with
  accessFlags := 49
  interfaces := #[]
  cf := some (fileOf pool3 1 #[.nestMembers #[98]] #[{ accessFlags := 2, nameIndex := 7, descriptorIndex := 8, attributes := #[] }, { accessFlags := 9, nameIndex := 198, descriptorIndex := 335, attributes := #[] }, { accessFlags := 9, nameIndex := 201, descriptorIndex := 335, attributes := #[] }] 49 4 #[] #[{ accessFlags := 25, nameIndex := 354, descriptorIndex := 339, attributes := #[] }, { accessFlags := 25, nameIndex := 358, descriptorIndex := 339, attributes := #[] }, { accessFlags := 25, nameIndex := 361, descriptorIndex := 339, attributes := #[] }, { accessFlags := 26, nameIndex := 364, descriptorIndex := 339, attributes := #[] }, { accessFlags := 26, nameIndex := 365, descriptorIndex := 339, attributes := #[] }, { accessFlags := 26, nameIndex := 172, descriptorIndex := 173, attributes := #[] }, { accessFlags := 26, nameIndex := 176, descriptorIndex := 173, attributes := #[] }, { accessFlags := 8, nameIndex := 344, descriptorIndex := 339, attributes := #[] }, { accessFlags := 8, nameIndex := 338, descriptorIndex := 339, attributes := #[] }, { accessFlags := 4120, nameIndex := 245, descriptorIndex := 246, attributes := #[] }])
  fields := #[{ name := "E", type := .double, accessFlags := 25, slot := 0, constantValue := 0 }, { name := "PI", type := .double, accessFlags := 25, slot := 1, constantValue := 0 }, { name := "TAU", type := .double, accessFlags := 25, slot := 2, constantValue := 0 }, { name := "DEGREES_TO_RADIANS", type := .double, accessFlags := 26, slot := 3, constantValue := 0 }, { name := "RADIANS_TO_DEGREES", type := .double, accessFlags := 26, slot := 4, constantValue := 0 }, { name := "negativeZeroFloatBits", type := .long, accessFlags := 26, slot := 5, constantValue := 0 }, { name := "negativeZeroDoubleBits", type := .long, accessFlags := 26, slot := 6, constantValue := 0 }, { name := "twoToTheDoubleScaleUp", type := .double, accessFlags := 8, slot := 7, constantValue := 0 }, { name := "twoToTheDoubleScaleDown", type := .double, accessFlags := 8, slot := 8, constantValue := 0 }, { name := "$assertionsDisabled", type := .boolean, accessFlags := 4120, slot := 9, constantValue := 0 }]
  methods := #[k3m0, k3m1, k3m2]
  instanceTypes := #[]
  staticTypes := #[.double, .double, .double, .double, .double, .long, .long, .double, .double, .boolean]
  resolved := Array.replicate 460 none
  statics := none }

def pool4 : Array CpInfo := pool [(2, .class_ 4), (1, u "java/lang/Object"), (0, u "<init>"), (0, u "()V"), (7, .class_ 16), (1, u "java/util/Arrays"), (57, .class_ 76), (1, u "java/util/Arrays$NaturalOrder"), (36, .class_ 115), (1, u "java/util/Arrays$LegacyMergeSort"), (1, u "Z"), (32, .methodref 151 152), (0, .class_ 153), (0, .nameAndType 154 155), (0, u "java/lang/System"), (0, u "arraycopy"), (0, u "(Ljava/lang/Object;ILjava/lang/Object;II)V"), (146, u "copyOf"), (1, .methodref 305 306), (0, .class_ 307), (0, .nameAndType 308 309), (0, u "java/lang/Math"), (0, u "min"), (0, u "(II)I"), (65, .class_ 376), (0, u "java/util/Arrays$ArrayList"), (68, u "$assertionsDisabled"), (269, u "MIN_ARRAY_SORT_GRAN"), (0, u "I"), (2, u "INSERTIONSORT_THRESHOLD"), (149, u "([BI)[B"), (105, .class_ 976), (0, u "java/util/Arrays$ArrayItr")] 52

def k4m0 : Method := { name := "<init>", desc := "()V", sig := { parameters := [], returnType := none }, accessFlags := 2, code := none }
def k4c1 : Code := { maxStack := 6, maxLocals := 3, code := jdk_65_method_121_code, exceptionTable := #[], attributes := #[] }
def k4m1 : Method := { name := "copyOf", desc := "([BI)[B", sig := { parameters := [(.array .byte), .int], returnType := some (.array .byte) }, accessFlags := 9, code := some k4c1 }
/-- java/util/Arrays -/
def k4 : Class := { plain "java/util/Arrays" (some 0) with
  accessFlags := 49
  interfaces := #[]
  cf := some (fileOf pool4 14 #[.nestMembers #[975, 375, 113, 74]] #[{ accessFlags := 2, nameIndex := 5, descriptorIndex := 6, attributes := #[] }, { accessFlags := 9, nameIndex := 302, descriptorIndex := 869, attributes := #[] }] 49 2 #[] #[{ accessFlags := 26, nameIndex := 715, descriptorIndex := 716, attributes := #[] }, { accessFlags := 26, nameIndex := 719, descriptorIndex := 716, attributes := #[] }, { accessFlags := 4120, nameIndex := 445, descriptorIndex := 117, attributes := #[] }])
  fields := #[{ name := "MIN_ARRAY_SORT_GRAN", type := .int, accessFlags := 26, slot := 0, constantValue := 0 }, { name := "INSERTIONSORT_THRESHOLD", type := .int, accessFlags := 26, slot := 1, constantValue := 0 }, { name := "$assertionsDisabled", type := .boolean, accessFlags := 4120, slot := 2, constantValue := 0 }]
  methods := #[k4m0, k4m1]
  instanceTypes := #[]
  staticTypes := #[.int, .int, .boolean]
  resolved := Array.replicate 1029 none
  statics := none }

def pool5 : Array CpInfo := pool [(2, .class_ 4), (1, u "java/lang/Object"), (0, u "<init>"), (0, u "()V"), (1, .class_ 10), (1, u "java/lang/System"), (0, u "allowSecurityManager"), (0, u "I"), (16, u "cons"), (0, u "Ljava/io/Console;"), (77, .class_ 110), (1, u "java/lang/System$CallersHolder"), (43, u "initialErrStream"), (0, u "Ljava/io/PrintStream;"), (19, u "security"), (0, u "Ljava/lang/SecurityManager;"), (31, .class_ 209), (0, u "java/lang/System$1"), (7, u "props"), (0, u "Ljava/util/Properties;"), (2, u "lineSeparator"), (0, u "Ljava/lang/String;"), (96, .class_ 321), (1, u "java/lang/System$LoggerFinder"), (5, .class_ 328), (0, u "java/lang/System$Logger"), (67, u "err"), (2, u "out"), (91, u "notSupportedJnuEncoding"), (15, u "in"), (17, u "initialIn"), (0, u "Ljava/io/InputStream;"), (35, u "bootLayer"), (0, u "Ljava/lang/ModuleLayer;"), (99, .class_ 664), (0, u "java/lang/System$2"), (9, u "NEVER"), (2, u "MAYBE"), (49, u "arraycopy"), (0, u "(Ljava/lang/Object;ILjava/lang/Object;II)V"), (72, .class_ 802), (0, u "java/lang/System$Logger$Level")] 31

def k5m0 : Method := { name := "<init>", desc := "()V", sig := { parameters := [], returnType := none }, accessFlags := 2, code := none }
def k5m1 : Method := { name := "arraycopy", desc := "(Ljava/lang/Object;ILjava/lang/Object;II)V", sig := { parameters := [(.object "java/lang/Object"), .int, (.object "java/lang/Object"), .int, .int], returnType := none }, accessFlags := 265, code := none }
/-- java/lang/System -/
def k5 : Class := { plain "java/lang/System" (some 0) with
  accessFlags := 49
  interfaces := #[]
  cf := some (fileOf pool5 8 #[.nestMembers #[319, 327, 801, 108, 663, 208]] #[{ accessFlags := 2, nameIndex := 5, descriptorIndex := 6, attributes := #[] }, { accessFlags := 265, nameIndex := 727, descriptorIndex := 728, attributes := #[] }] 49 2 #[] #[{ accessFlags := 25, nameIndex := 507, descriptorIndex := 526, attributes := #[] }, { accessFlags := 25, nameIndex := 399, descriptorIndex := 155, attributes := #[] }, { accessFlags := 25, nameIndex := 396, descriptorIndex := 155, attributes := #[] }, { accessFlags := 10, nameIndex := 525, descriptorIndex := 526, attributes := #[] }, { accessFlags := 26, nameIndex := 674, descriptorIndex := 12, attributes := #[] }, { accessFlags := 26, nameIndex := 677, descriptorIndex := 12, attributes := #[] }, { accessFlags := 10, nameIndex := 11, descriptorIndex := 12, attributes := #[] }, { accessFlags := 74, nameIndex := 175, descriptorIndex := 176, attributes := #[] }, { accessFlags := 10, nameIndex := 491, descriptorIndex := 222, attributes := #[] }, { accessFlags := 74, nameIndex := 29, descriptorIndex := 30, attributes := #[] }, { accessFlags := 74, nameIndex := 154, descriptorIndex := 155, attributes := #[] }, { accessFlags := 10, nameIndex := 217, descriptorIndex := 218, attributes := #[] }, { accessFlags := 10, nameIndex := 221, descriptorIndex := 222, attributes := #[] }, { accessFlags := 8, nameIndex := 562, descriptorIndex := 563, attributes := #[] }])
  fields := #[{ name := "in", type := (.object "java/io/InputStream"), accessFlags := 25, slot := 0, constantValue := 0 }, { name := "out", type := (.object "java/io/PrintStream"), accessFlags := 25, slot := 1, constantValue := 0 }, { name := "err", type := (.object "java/io/PrintStream"), accessFlags := 25, slot := 2, constantValue := 0 }, { name := "initialIn", type := (.object "java/io/InputStream"), accessFlags := 10, slot := 3, constantValue := 0 }, { name := "NEVER", type := .int, accessFlags := 26, slot := 4, constantValue := 0 }, { name := "MAYBE", type := .int, accessFlags := 26, slot := 5, constantValue := 0 }, { name := "allowSecurityManager", type := .int, accessFlags := 10, slot := 6, constantValue := 0 }, { name := "security", type := (.object "java/lang/SecurityManager"), accessFlags := 74, slot := 7, constantValue := 0 }, { name := "notSupportedJnuEncoding", type := (.object "java/lang/String"), accessFlags := 10, slot := 8, constantValue := 0 }, { name := "cons", type := (.object "java/io/Console"), accessFlags := 74, slot := 9, constantValue := 0 }, { name := "initialErrStream", type := (.object "java/io/PrintStream"), accessFlags := 74, slot := 10, constantValue := 0 }, { name := "props", type := (.object "java/util/Properties"), accessFlags := 10, slot := 11, constantValue := 0 }, { name := "lineSeparator", type := (.object "java/lang/String"), accessFlags := 10, slot := 12, constantValue := 0 }, { name := "bootLayer", type := (.object "java/lang/ModuleLayer"), accessFlags := 8, slot := 13, constantValue := 0 }]
  methods := #[k5m0, k5m1]
  instanceTypes := #[]
  staticTypes := #[(.object "java/io/InputStream"), (.object "java/io/PrintStream"), (.object "java/io/PrintStream"), (.object "java/io/InputStream"), .int, .int, .int, (.object "java/lang/SecurityManager"), (.object "java/lang/String"), (.object "java/io/Console"), (.object "java/io/PrintStream"), (.object "java/util/Properties"), (.object "java/lang/String"), (.object "java/lang/ModuleLayer")]
  resolved := Array.replicate 834 none
  statics := none }

def pool6 : Array CpInfo := pool [(1, u "java/lang/Cloneable"), (0, .class_ 1), (0, u "java/lang/Object"), (0, .class_ 3)] 3

/-- java/lang/Cloneable -/
def k6 : Class := { plain "java/lang/Cloneable" (some 0) with
  accessFlags := 1537
  interfaces := #[]
  cf := some (fileOf pool6 2 #[] #[] 1537 4 #[] #[])
  fields := #[]
  methods := #[]
  instanceTypes := #[]
  staticTypes := #[]
  resolved := Array.replicate 8 none
  statics := none }

def pool7 : Array CpInfo := pool [(1, u "java/io/Serializable"), (0, .class_ 1), (0, u "java/lang/Object"), (0, .class_ 3)] 3

/-- java/io/Serializable -/
def k7 : Class := { plain "java/io/Serializable" (some 0) with
  accessFlags := 1537
  interfaces := #[]
  cf := some (fileOf pool7 2 #[] #[] 1537 4 #[] #[])
  fields := #[]
  methods := #[]
  instanceTypes := #[]
  staticTypes := #[]
  resolved := Array.replicate 8 none
  statics := none }

/-- the primitive byte -/
def k8 : Class := { plain "byte" none with kind := .primitive 'B', accessFlags := 0x411 }
/-- [B -/
def k9 : Class := { plain "[B" (some 0) with kind := .array 8 .byte, interfaces := #[6, 7], accessFlags := 1041 }

def heap : Heap := #[]
def classes : Array Class := #[k0, k1, k2, k3, k4, k5, k6, k7, k8, k9]
def interned : List (Array UInt16 × Addr) := []
def slotsUsed : Nat := 0
def theMethod : MethodId := ⟨1, 2⟩
def args0 : Array Value := #[.int 3, .int 5, .int (-4), .int 1, .int 7]
def aboutOver (below : List Frame) : State where
  vm := { classes := classes, interned := interned.toArray }
  heap := heap
  slotsUsed := slotsUsed
  threads := #[{ frames := .invoking theMethod args0 :: below }]
def below0 : List Frame := [.native { method := ⟨0, 0⟩, args := #[] }]
def about1 : State := aboutOver below0
def p0 : Program := .bare "" "" ""
def e0 : Env := launch0.env 0 0 0
theorem w_frames : about1.frames = Frame.invoking theMethod args0 :: below0 := rfl
set_option maxRecDepth 65536 in
theorem w_args : argsFit about1.vm theMethod args0 = true := by decide +kernel
set_option maxRecDepth 65536 in
theorem w_heap : heapFits about1 = true := by decide +kernel
set_option maxRecDepth 65536 in
theorem w_runnable : about1.curStatus? = some .runnable := by decide +kernel
set_option maxRecDepth 65536 in
theorem w_alone : about1.alone = true := by decide +kernel
set_option maxRecDepth 65536 in
theorem w_named : about1.methodNamed? x = some theMethod := by decide +kernel
set_option maxRecDepth 65536 in
theorem w_hears : about1.hears theMethod below0 = true := by decide +kernel
set_option maxRecDepth 65536 in
theorem w_ripe : about1.ripe theMethod args0 below0 = true := by decide +kernel
theorem w_running : about1.status = .running := rfl
set_option maxRecDepth 65536 in
theorem w_room : about1.hasRoom e0.platform room_1 = true :=
  launch0.hasRoom_least _ room_1 (by decide +kernel) (by decide +kernel) (by decide +kernel) (by decide +kernel) (by decide +kernel) (by decide +kernel)
theorem allAtoms_all (ts : List Jvm.Cond) (a : Array Jvm.Value) (st : Jvm.State) : (allAtoms ts).before a st = ts.all (fun c => c.before a st) := by
  induction ts with
  | nil => rfl
  | cons c t ih =>
    show (Jvm.Cond.and c (allAtoms t)).before a st = _
    rw [Jvm.Cond.before_and, ih, List.all_cons]
def words1 : List Jvm.Cond := Jvm.Cond.code x code maxLocals ret :: tables_1
/-- a 'code' word, met by the world's own term for the bytes: nothing is compared byte by byte -/
theorem code_word {y : MethodName} {bytes : ByteArray} {mx : Nat} {rt : Option FieldType} {a : Array Value} {s : State} {m : MethodId} {meth : Method} {c : Code} (h1 : s.methodNamed? y = some m) (h2 : s.vm.method? m = some meth) (h3 : meth.code = some c) (h4 : c.code = bytes)
    (h5 : (c.maxLocals == mx && c.exceptionTable.isEmpty && decide (c.maxStack ≤ mostOperands) && decide (meth.sig.returnType = rt) && !meth.locks && decide (parseMethodDescriptor y.desc = some meth.sig)) = true) : (Jvm.Cond.code y bytes mx rt).before a s = true := by
  simp only [Bool.and_eq_true, beq_iff_eq, Bool.not_eq_true', decide_eq_true_eq] at h5
  obtain ⟨⟨⟨⟨⟨g1, g2⟩, g3⟩, g4⟩, g5⟩, g6⟩ := h5
  simp [Cond.before, Cond.holds, Cond.value, h1, h2, h3, h4, g1, g2, g3, g4, g5, g6]
def isCode : Jvm.Cond → Bool
  | .code _ _ _ _ => true
  | _ => false
theorem all_split {L : List Jvm.Cond} {P : Jvm.Cond → Bool} (h1 : L.all (fun c => isCode c || P c) = true) (h2 : ∀ c ∈ L.filter isCode, P c = true) : L.all P = true := by
  refine List.all_eq_true.mpr fun c hc => ?_
  have h := List.all_eq_true.mp h1 c hc
  rcases Bool.eq_false_or_eq_true (isCode c) with hi | hi
  · exact h2 c (List.mem_filter.mpr ⟨hc, hi⟩)
  · simpa [hi] using h
set_option maxRecDepth 65536 in
theorem w_c0 : (Jvm.Cond.code x code maxLocals ret).before args0 about1 = true := code_word (m := ⟨1, 2⟩) (meth := k1m2) (c := k1c2) (by decide +kernel) rfl rfl rfl (by decide +kernel)
set_option maxRecDepth 65536 in
theorem w_c1 : (Jvm.Cond.code ({ cls := "com/example/proxysmith/proxysmith/ClassFileWriter$Bytes", name := "<init>", desc := "(I)V" } : Jvm.MethodName) prog_13_method_1_code (2 : Nat) (Option.none : Option Jvm.ClassFile.FieldType)).before args0 about1 = true := code_word (m := ⟨2, 0⟩) (meth := k2m0) (c := k2c0) (by decide +kernel) rfl rfl rfl (by decide +kernel)
set_option maxRecDepth 65536 in
theorem w_c2 : (Jvm.Cond.code ({ cls := "java/lang/Object", name := "<init>", desc := "()V" } : Jvm.MethodName) object_method_1_code (1 : Nat) (Option.none : Option Jvm.ClassFile.FieldType)).before args0 about1 = true := code_word (m := ⟨0, 0⟩) (meth := k0m0) (c := k0c0) (by decide +kernel) rfl rfl rfl (by decide +kernel)
set_option maxRecDepth 65536 in
theorem w_c3 : (Jvm.Cond.code ({ cls := "com/example/proxysmith/proxysmith/ClassFileWriter$Bytes", name := "u4", desc := "(I)V" } : Jvm.MethodName) prog_13_method_4_code (2 : Nat) (Option.none : Option Jvm.ClassFile.FieldType)).before args0 about1 = true := code_word (m := ⟨2, 2⟩) (meth := k2m2) (c := k2c2) (by decide +kernel) rfl rfl rfl (by decide +kernel)
set_option maxRecDepth 65536 in
theorem w_c4 : (Jvm.Cond.code ({ cls := "com/example/proxysmith/proxysmith/ClassFileWriter$Bytes", name := "u2", desc := "(I)V" } : Jvm.MethodName) prog_13_method_3_code (2 : Nat) (Option.none : Option Jvm.ClassFile.FieldType)).before args0 about1 = true := code_word (m := ⟨2, 1⟩) (meth := k2m1) (c := k2c1) (by decide +kernel) rfl rfl rfl (by decide +kernel)
set_option maxRecDepth 65536 in
theorem w_c5 : (Jvm.Cond.code ({ cls := "com/example/proxysmith/proxysmith/ClassFileWriter$Bytes", name := "room", desc := "(I)V" } : Jvm.MethodName) prog_13_method_11_code (2 : Nat) (Option.none : Option Jvm.ClassFile.FieldType)).before args0 about1 = true := code_word (m := ⟨2, 6⟩) (meth := k2m6) (c := k2c6) (by decide +kernel) rfl rfl rfl (by decide +kernel)
set_option maxRecDepth 65536 in
theorem w_c6 : (Jvm.Cond.code ({ cls := "java/lang/Math", name := "max", desc := "(II)I" } : Jvm.MethodName) jdk_29_method_65_code (2 : Nat) (Option.some Jvm.ClassFile.FieldType.int)).before args0 about1 = true := code_word (m := ⟨3, 1⟩) (meth := k3m1) (c := k3c1) (by decide +kernel) rfl rfl rfl (by decide +kernel)
set_option maxRecDepth 65536 in
theorem w_c7 : (Jvm.Cond.code ({ cls := "java/util/Arrays", name := "copyOf", desc := "([BI)[B" } : Jvm.MethodName) jdk_65_method_121_code (3 : Nat) (Option.some (Jvm.ClassFile.FieldType.array Jvm.ClassFile.FieldType.byte))).before args0 about1 = true := code_word (m := ⟨4, 1⟩) (meth := k4m1) (c := k4c1) (by decide +kernel) rfl rfl rfl (by decide +kernel)
set_option maxRecDepth 65536 in
theorem w_c8 : (Jvm.Cond.code ({ cls := "java/lang/Math", name := "min", desc := "(II)I" } : Jvm.MethodName) jdk_29_method_69_code (2 : Nat) (Option.some Jvm.ClassFile.FieldType.int)).before args0 about1 = true := code_word (m := ⟨3, 2⟩) (meth := k3m2) (c := k3c2) (by decide +kernel) rfl rfl rfl (by decide +kernel)
set_option maxRecDepth 65536 in
theorem w_c9 : (Jvm.Cond.code ({ cls := "com/example/proxysmith/proxysmith/ClassFileWriter$Bytes", name := "u2At", desc := "(II)V" } : Jvm.MethodName) prog_13_method_7_code (3 : Nat) (Option.none : Option Jvm.ClassFile.FieldType)).before args0 about1 = true := code_word (m := ⟨2, 3⟩) (meth := k2m3) (c := k2c3) (by decide +kernel) rfl rfl rfl (by decide +kernel)
set_option maxRecDepth 65536 in
theorem w_c10 : (Jvm.Cond.code ({ cls := "com/example/proxysmith/proxysmith/ClassFileWriter$Bytes", name := "size", desc := "()I" } : Jvm.MethodName) prog_13_method_9_code (1 : Nat) (Option.some Jvm.ClassFile.FieldType.int)).before args0 about1 = true := code_word (m := ⟨2, 4⟩) (meth := k2m4) (c := k2c4) (by decide +kernel) rfl rfl rfl (by decide +kernel)
set_option maxRecDepth 65536 in
theorem w_c11 : (Jvm.Cond.code ({ cls := "com/example/proxysmith/proxysmith/ClassFileWriter$Bytes", name := "toByteArray", desc := "()[B" } : Jvm.MethodName) prog_13_method_10_code (1 : Nat) (Option.some (Jvm.ClassFile.FieldType.array Jvm.ClassFile.FieldType.byte))).before args0 about1 = true := code_word (m := ⟨2, 5⟩) (meth := k2m5) (c := k2c5) (by decide +kernel) rfl rfl rfl (by decide +kernel)
set_option maxRecDepth 65536 in
theorem w_c12 : (Jvm.Cond.code ({ cls := "com/example/proxysmith/proxysmith/BytesU2AtPinLaw", name := "expect", desc := "(IIIII)I" } : Jvm.MethodName) method_2_code (5 : Nat) (Option.some Jvm.ClassFile.FieldType.int)).before args0 about1 = true := code_word (m := ⟨1, 1⟩) (meth := k1m1) (c := k1c1) (by decide +kernel) rfl rfl rfl (by decide +kernel)
def codes1 : List Jvm.Cond := [Jvm.Cond.code x code maxLocals ret, Jvm.Cond.code ({ cls := "com/example/proxysmith/proxysmith/ClassFileWriter$Bytes", name := "<init>", desc := "(I)V" } : Jvm.MethodName) prog_13_method_1_code (2 : Nat) (Option.none : Option Jvm.ClassFile.FieldType), Jvm.Cond.code ({ cls := "java/lang/Object", name := "<init>", desc := "()V" } : Jvm.MethodName) object_method_1_code (1 : Nat) (Option.none : Option Jvm.ClassFile.FieldType), Jvm.Cond.code ({ cls := "com/example/proxysmith/proxysmith/ClassFileWriter$Bytes", name := "u4", desc := "(I)V" } : Jvm.MethodName) prog_13_method_4_code (2 : Nat) (Option.none : Option Jvm.ClassFile.FieldType), Jvm.Cond.code ({ cls := "com/example/proxysmith/proxysmith/ClassFileWriter$Bytes", name := "u2", desc := "(I)V" } : Jvm.MethodName) prog_13_method_3_code (2 : Nat) (Option.none : Option Jvm.ClassFile.FieldType), Jvm.Cond.code ({ cls := "com/example/proxysmith/proxysmith/ClassFileWriter$Bytes", name := "room", desc := "(I)V" } : Jvm.MethodName) prog_13_method_11_code (2 : Nat) (Option.none : Option Jvm.ClassFile.FieldType), Jvm.Cond.code ({ cls := "java/lang/Math", name := "max", desc := "(II)I" } : Jvm.MethodName) jdk_29_method_65_code (2 : Nat) (Option.some Jvm.ClassFile.FieldType.int), Jvm.Cond.code ({ cls := "java/util/Arrays", name := "copyOf", desc := "([BI)[B" } : Jvm.MethodName) jdk_65_method_121_code (3 : Nat) (Option.some (Jvm.ClassFile.FieldType.array Jvm.ClassFile.FieldType.byte)), Jvm.Cond.code ({ cls := "java/lang/Math", name := "min", desc := "(II)I" } : Jvm.MethodName) jdk_29_method_69_code (2 : Nat) (Option.some Jvm.ClassFile.FieldType.int), Jvm.Cond.code ({ cls := "com/example/proxysmith/proxysmith/ClassFileWriter$Bytes", name := "u2At", desc := "(II)V" } : Jvm.MethodName) prog_13_method_7_code (3 : Nat) (Option.none : Option Jvm.ClassFile.FieldType), Jvm.Cond.code ({ cls := "com/example/proxysmith/proxysmith/ClassFileWriter$Bytes", name := "size", desc := "()I" } : Jvm.MethodName) prog_13_method_9_code (1 : Nat) (Option.some Jvm.ClassFile.FieldType.int), Jvm.Cond.code ({ cls := "com/example/proxysmith/proxysmith/ClassFileWriter$Bytes", name := "toByteArray", desc := "()[B" } : Jvm.MethodName) prog_13_method_10_code (1 : Nat) (Option.some (Jvm.ClassFile.FieldType.array Jvm.ClassFile.FieldType.byte)), Jvm.Cond.code ({ cls := "com/example/proxysmith/proxysmith/BytesU2AtPinLaw", name := "expect", desc := "(IIIII)I" } : Jvm.MethodName) method_2_code (5 : Nat) (Option.some Jvm.ClassFile.FieldType.int)]
set_option maxRecDepth 65536 in
theorem codes_eq : words1.filter isCode = codes1 := rfl
theorem w_codes : ∀ c ∈ words1.filter isCode, c.before args0 about1 = true := by
  rw [codes_eq]
  intro c hc
  simp only [codes1, List.mem_cons, List.not_mem_nil, or_false] at hc
  rcases hc with rfl | rfl | rfl | rfl | rfl | rfl | rfl | rfl | rfl | rfl | rfl | rfl | rfl
  · exact w_c0
  · exact w_c1
  · exact w_c2
  · exact w_c3
  · exact w_c4
  · exact w_c5
  · exact w_c6
  · exact w_c7
  · exact w_c8
  · exact w_c9
  · exact w_c10
  · exact w_c11
  · exact w_c12
set_option maxRecDepth 65536 in
theorem w_t1 : (words1.take 24).all (fun c => isCode c || c.before args0 about1) = true := by decide +kernel
set_option maxRecDepth 65536 in
theorem w_t2 : ((words1.drop 24).take 24).all (fun c => isCode c || c.before args0 about1) = true := by decide +kernel
set_option maxRecDepth 65536 in
theorem w_t3 : ((words1.drop 24).drop 24).all (fun c => isCode c || c.before args0 about1) = true := by decide +kernel
theorem w_tables : (allAtoms (Jvm.Cond.code x code maxLocals ret :: tables_1)).before args0 about1 = true := by
  rw [allAtoms_all]
  show words1.all (fun c => c.before args0 about1) = true
  refine all_split ?_ w_codes
  rw [← List.take_append_drop 24 words1, List.all_append, w_t1, ← List.take_append_drop 24 (words1.drop 24), List.all_append, w_t2, w_t3]
  rfl
set_option maxRecDepth 65536 in
theorem w_case : (Jvm.Cond.and given_1 narrow_1).before args0 about1 = true := by decide +kernel
theorem w_applies : (headSpec (Jvm.Cond.code x code maxLocals ret :: tables_1) room_1).applies x e0.platform about1 = true :=
  (Spec.applies_iff w_frames).mpr ⟨w_running, w_runnable, w_alone, w_named, w_hears, w_ripe, w_room, w_tables⟩
theorem atStart : AtStart classFile x code maxLocals ret World_1 tables_1 room_1 Calls_1 rest_1 Pre_1 launch0 p0 e0 about1 theMethod args0 below0 :=
  ⟨lists_1, trivial, launch0.admits_env _ _ _, launch0.least_env, fairChoices_fair.cas, fairChoices_fair.clock, w_frames, w_args, w_heap, w_applies, trivial, trivial, w_case⟩
end start1
theorem witness_1 : WitnessClaimed_1 := ⟨start1.p0, start1.e0, start1.about1, start1.theMethod, start1.args0, start1.below0, start1.atStart⟩
end Jvm.Pilot.@@N@@
