import JvmDerived
import JvmDerived.Pilot.@@N@@Statement
import JvmDerived.Pilot.@@N@@Code
set_option linter.unusedVariables false
set_option linter.unusedSimpArgs false
namespace Jvm.RoadKit
open Sem ClassFile Op Lib Jvm.Stand Jvm.Free Jvm.LawKit
section Own
variable {p : Program} {l : Launch} {e : Env} {R : Room} {s : State} {m : MethodId} {args : Array Value} {below : List Frame} {meth : Method} {c : Code} {T : State} {locs : List Loc} {cells slots : Nat} {Z : State} {a0 : Array Value} {h : Heap}
/-- what is left of a body: from the frame g on it ends, and Q holds of what it returns, the heap and the places written -/
def Goes (p : Program) (e : Env) (below : List Frame) (s : State) (K N : Nat) (Q : Option Value → Heap → List Loc → Prop) (T : State) (g : JFrame) : Prop :=
  ∃ s₂ o, Steps p.tables e below (T.setTop g) s₂ ∧ s₂.status = .running ∧ Ended s₂ below o ∧ ∃ v L, o = .returned v ∧ Q v s₂.heap L ∧ FrameEnd s o s₂ L K N
theorem Goes.step {K N : Nat} {Q : Option Value → Heap → List Loc → Prop} {T' : State} {g g' : JFrame} (k : ∀ t, Steps p.tables e below (T'.setTop g') t → Steps p.tables e below (T.setTop g) t) (h : Goes p e below s K N Q T' g') : Goes p e below s K N Q T g := by
  obtain ⟨s₂, o, h1, h2⟩ := h
  exact ⟨s₂, o, k _ h1, h2⟩
theorem Goes.jump {K N : Nat} {Q : Option Value → Heap → List Loc → Prop} {T' : State} {g g' : JFrame} (k : Steps p.tables e below (T.setTop g) (T'.setTop g')) (h : Goes p e below s K N Q T' g') : Goes p e below s K N Q T g :=
  Goes.step (fun _ q => k.trans q) h
theorem Goes.ite {K N : Nat} {α : Type} {Q : α → Option Value → Heap → List Loc → Prop} {g : JFrame} {a b : α} {d : Prop} [Decidable d] (h1 : d → Goes p e below s K N (Q a) T g) (h2 : ¬ d → Goes p e below s K N (Q b) T g) : Goes p e below s K N (Q (if d then a else b)) T g := by
  split
  · next q => exact h1 q
  · next q => exact h2 q
theorem Goes.imp {K N : Nat} {Q Q' : Option Value → Heap → List Loc → Prop} {g : JFrame} (q : ∀ v h L, Q v h L → Q' v h L) (h : Goes p e below s K N Q T g) : Goes p e below s K N Q' T g := by
  obtain ⟨s₂, o, h1, h2, h3, v, L, h4, h5, h6⟩ := h
  exact ⟨s₂, o, h1, h2, h3, v, L, h4, q _ _ _ h5, h6⟩
theorem retI (X : Stand p l e R s m args below meth c T locs cells slots) (hx : p.tables.exec = Jvm.exec) {pc : Nat} {Ls : Array Slot} {z : Int32} {rest : List Value} (hret : meth.sig.returnType = some .int) (hd : decode c.code pc = .ok (.ireturn, 1)) {fs : List Frame}
    (hl : ∀ (f : JFrame) (acts : List Action), f.method = m → f.locked = none → f.entered = [] → (doReturn e (T.setTop f) acts (some (.int z))).1 = T.setFrames fs) : Steps p.tables e below (T.setTop (mkF m pc Ls (.int z :: rest))) (T.setFrames fs) := by
  have hm' : T.vm.method? m = some meth := X.method'
  have hn : narrow .int (.int z) = .int z := rfl
  show Steps p.tables e below (T.setTop { method := m, pc := pc, locals := Ls, stack := _ :: rest, locked := none }) _
  jvm_step X.here [X.here.top, hx, hd, hm', hret, hn]
  first | (intro acts; rw [hl _ acts rfl rfl rfl]) | rw [hl _ _ rfl rfl rfl]
  exact Steps.refl _
theorem retJ (X : Stand p l e R s m args below meth c T locs cells slots) (hx : p.tables.exec = Jvm.exec) {pc : Nat} {Ls : Array Slot} {z : Int64} {rest : List Value} (hret : meth.sig.returnType = some .long) (hd : decode c.code pc = .ok (.lreturn, 1)) {fs : List Frame}
    (hl : ∀ (f : JFrame) (acts : List Action), f.method = m → f.locked = none → f.entered = [] → (doReturn e (T.setTop f) acts (some (.long z))).1 = T.setFrames fs) : Steps p.tables e below (T.setTop (mkF m pc Ls (.long z :: rest))) (T.setFrames fs) :=
  retOut X hx hret rfl (Or.inr (Or.inl ⟨rfl, rfl, z, rfl⟩)) hd hl
theorem Goes.outI (X : Stand p l e R s m args below meth c T locs cells slots) (hx : p.tables.exec = Jvm.exec) (hlk : meth.locks = false) (hret : meth.sig.returnType = some .int) {pc : Nat} (hd : decode c.code pc = .ok (.ireturn, 1)) {Ls : Array Slot} {z : Int32} {rest : List Value} {K N : Nat} {Q : Option Value → Heap → List Loc → Prop}
    (hq : Q (some (.int z)) T.heap locs) (hk : cells ≤ K) (hn : slots ≤ N) : Goes p e below s K N Q T (mkF m pc Ls (.int z :: rest)) := by
  obtain ⟨fs, hr, hrun, hended, hW, hsame⟩ := X.leave (v := some (.int z)) (fun h => by rw [hret] at h; cases h) hlk
  exact ⟨_, _, retI X hx hret hd hr, hrun, hended, _, _, rfl, hq, ⟨_, rfl⟩, hW, hsame.mono hk hn⟩
theorem Goes.outJ (X : Stand p l e R s m args below meth c T locs cells slots) (hx : p.tables.exec = Jvm.exec) (hlk : meth.locks = false) (hret : meth.sig.returnType = some .long) {pc : Nat} (hd : decode c.code pc = .ok (.lreturn, 1)) {Ls : Array Slot} {z : Int64} {rest : List Value} {K N : Nat} {Q : Option Value → Heap → List Loc → Prop}
    (hq : Q (some (.long z)) T.heap locs) (hk : cells ≤ K) (hn : slots ≤ N) : Goes p e below s K N Q T (mkF m pc Ls (.long z :: rest)) := by
  obtain ⟨fs, hr, hrun, hended, hW, hsame⟩ := X.leave (v := some (.long z)) (fun h => by rw [hret] at h; cases h) hlk
  exact ⟨_, _, retJ X hx hret hd hr, hrun, hended, _, _, rfl, hq, ⟨_, rfl⟩, hW, hsame.mono hk hn⟩
theorem Goes.outN (X : Stand p l e R s m args below meth c T locs cells slots) (hx : p.tables.exec = Jvm.exec) (hlk : meth.locks = false) {t : FieldType} (hret : meth.sig.returnType = some t) (ht : t = .boolean ∨ t = .byte ∨ t = .char ∨ t = .short) {pc : Nat} (hd : decode c.code pc = .ok (.ireturn, 1)) {Ls : Array Slot} {z : Int32} {rest : List Value} {K N : Nat} {Q : Option Value → Heap → List Loc → Prop}
    (hq : Q (some (.int (nar t z))) T.heap locs) (hk : cells ≤ K) (hn : slots ≤ N) : Goes p e below s K N Q T (mkF m pc Ls (.int z :: rest)) := by
  obtain ⟨fs, hr, hrun, hended, hW, hsame⟩ := X.leave (v := some (.int (nar t z))) (fun h => by rw [hret] at h; cases h) hlk
  exact ⟨_, _, retN X hx hret ht hd hr, hrun, hended, _, _, rfl, hq, ⟨_, rfl⟩, hW, hsame.mono hk hn⟩
theorem Goes.outV (X : Stand p l e R s m args below meth c T locs cells slots) (hx : p.tables.exec = Jvm.exec) (hlk : meth.locks = false) (hret : meth.sig.returnType = none) {pc : Nat} (hd : decode c.code pc = .ok (.return_, 1)) {Ls : Array Slot} {K N : Nat} {Q : Option Value → Heap → List Loc → Prop}
    (hq : Q none T.heap locs) (hk : cells ≤ K) (hn : slots ≤ N) : Goes p e below s K N Q T (mkF m pc Ls []) := by
  obtain ⟨fs, hr, hrun, hended, hW, hsame⟩ := X.leave (v := none) (fun _ => rfl) hlk
  exact ⟨_, _, X.returnOut hx hret hd hr, hrun, hended, _, _, rfl, hq, ⟨_, rfl⟩, hW, hsame.mono hk hn⟩
theorem Goes.outR (X : Stand p l e R s m args below meth c T locs cells slots) (hx : p.tables.exec = Jvm.exec) (hlk : meth.locks = false) {t : FieldType} (hret : meth.sig.returnType = some t) (ht : t.isReference = true) {w : Value} (hw : w.isRef = true) {pc : Nat} (hd : decode c.code pc = .ok (.areturn, 1)) {Ls : Array Slot} {K N : Nat} {Q : Option Value → Heap → List Loc → Prop}
    (hq : Q (some w) T.heap locs) (hk : cells ≤ K) (hn : slots ≤ N) : Goes p e below s K N Q T (mkF m pc Ls [w]) := by
  obtain ⟨fs, hr, hrun, hended, hW, hsame⟩ := X.leave (v := some w) (fun h => by rw [hret] at h; cases h) hlk
  exact ⟨_, _, X.areturnOut hx hw hret ht hd hr, hrun, hended, _, _, rfl, hq, ⟨_, rfl⟩, hW, hsame.mono hk hn⟩
/-- a body that returns v and leaves the heap as it was -/
def PV (h0 : Heap) (r : Value) (v : Option Value) (h : Heap) (L : List Loc) : Prop := v = some r ∧ L = [] ∧ h = h0
def PI (h0 : Heap) (r : Int32) (v : Option Value) (h : Heap) (L : List Loc) : Prop := PV h0 (.int r) v h L
def PJ (h0 : Heap) (r : Int64) (v : Option Value) (h : Heap) (L : List Loc) : Prop := PV h0 (.long r) v h L
def PA (h0 : Heap) (r : Addr) (v : Option Value) (h : Heap) (L : List Loc) : Prop := PV h0 (.ref r) v h L
/-- a reference that may be null -/
def ov : Option Addr → Value
  | none => .null
  | some b => .ref b
def PO (h0 : Heap) (r : Option Addr) (v : Option Value) (h : Heap) (L : List Loc) : Prop := PV h0 (ov r) v h L
theorem ov_cat (o : Option Addr) : (ov o).category = 1 := by cases o <;> rfl
theorem ov_inj {a b : Option Addr} : (ov a = ov b) = (a = b) := by cases a <;> cases b <;> simp [ov]
theorem ov_ref (o : Option Addr) : (ov o).isRef = true := by cases o <;> rfl
/-- a virtual call of a body that leaves the heap as it was -/
theorem callPureV (X : Stand p l e R s m args below meth c T locs cells slots) (hx : p.tables.exec = Jvm.exec) (hZ : Z.Warmed39 s.vm) {own C : String} {index : Nat} {y z : MethodName} {bytes : ByteArray} {maxL : Nat} {ret : Option FieldType} (hown : s.vm.findClass own = some m.cls)
    (w1 : (Cond.methodLink own index y).before a0 Z = true) (w2 : (Cond.declares y).before a0 Z = true) (w3 : (Cond.selects C y z).before a0 Z = true) (w4 : (Cond.instanceMethod z).before a0 Z = true) (w5 : (Cond.code z bytes maxL ret).before a0 Z = true) (w6 : (Cond.initialized z.cls).before a0 Z = true) (hnf : NotFace s y) (hy : y.cls ≠ "java/lang/invoke/MethodHandle" ∧ y.cls ≠ "java/lang/invoke/VarHandle")
    {F W0 W : Nat} {b : Addr} {argsL rest : List Value} {r : Value} {Q : Option Value → Heap → List Loc → Prop} (hQ : ∀ v h' L, Q v h' L → PV h r v h' L)
    (hM : MetFree l z (head1 [Cond.code z bytes maxL ret] ({ frames := F, cells := 0, slots := 0, locals := W0 } : Room)) (fun a U => a = (.ref b :: argsL).toArray ∧ Z.Warmed39 U.vm ∧ U.heap = h) (fun _ _ _ _ _ => True) (fun _ U o U' => ∃ v L, o = .returned v ∧ Q v U'.heap L ∧ FrameEnd U o U' L ({ frames := F, cells := 0, slots := 0, locals := W0 } : Room).cells ({ frames := F, cells := 0, slots := 0, locals := W0 } : Room).slots))
    (hf : F + 1 ≤ R.frames) (hl : W + (maxL + 11) + W0 ≤ R.locals) (hc : cells ≤ R.cells) (hs : slots ≤ R.slots) (eT : T.heap = h) (E : Exa Z h b C) {g : JFrame} (hg : g.method = m) (hsize : g.locals.size = c.maxLocals) (hlen : ∀ sig, parseMethodDescriptor y.desc = some sig → argsL.length = sig.parameters.length)
    (hstack : g.stack = argsL.reverse ++ .ref b :: rest) (hW : 2 * g.monitorRoom + (rest.map fun v => v.category).sum ≤ W) (hd : decode c.code g.pc = .ok (.invokevirtual index, 3)) :
    ∃ T', Stand p l e R s m args below meth c T' locs cells slots ∧ T'.heap = h ∧ ∀ target, Steps p.tables e below (T'.setTop { g with pc := g.pc + 3, stack := r :: rest }) target → Steps p.tables e below (T.setTop g) target := by
  obtain ⟨cq, kq, qa, qb, qc⟩ := isOf hZ eT E
  obtain ⟨_, _, ⟨T18, L18, k18, n18⟩, -, X18, ⟨Lc, hq, l18, y18, z18⟩, st⟩ := X.virtualBack hx hown (mvT hZ w1) (mvT hZ w2) hnf (mvT hZ w3) (mvT hZ w4) hy (backOf (W := W) hM hZ w5 w6 hf hl) qa qc hg hsize (Steps.refl _) hlen hstack hW hd (fun _ _ => ⟨rfl, eT, hc, hs⟩)
  dsimp only [Pt.U, Pt.locs, Pt.cells, Pt.slots] at X18 l18 y18 z18 st hq
  subst l18 y18 z18
  obtain ⟨rfl, rfl, e18⟩ := hQ _ _ _ hq
  rw [List.append_nil] at X18
  exact ⟨T18, X18, e18, fun _ k => st.trans k⟩
/-- a static call of a body that leaves the heap as it was -/
theorem callPure (X : Stand p l e R s m args below meth c T locs cells slots) (hx : p.tables.exec = Jvm.exec) (hZ : Z.Warmed39 s.vm) {own : String} {index : Nat} {y : MethodName} {bytes : ByteArray} {maxL : Nat} {ret : Option FieldType} (hown : s.vm.findClass own = some m.cls)
    (w1 : (Cond.methodLink own index y).before a0 Z = true) (w2 : (Cond.static y).before a0 Z = true) (w3 : (Cond.initialized y.cls).before a0 Z = true) (w4 : (Cond.code y bytes maxL ret).before a0 Z = true) (hy : y.cls ≠ "java/lang/invoke/MethodHandle" ∧ y.cls ≠ "java/lang/invoke/VarHandle")
    {F W0 W : Nat} {argsL rest : List Value} {r : Value} {Q : Option Value → Heap → List Loc → Prop} (hQ : ∀ v h' L, Q v h' L → PV h r v h' L)
    (hM : MetFree l y (head1 [Cond.code y bytes maxL ret] ({ frames := F, cells := 0, slots := 0, locals := W0 } : Room)) (fun a U => a = argsL.toArray ∧ Z.Warmed39 U.vm ∧ U.heap = h) (fun _ _ _ _ _ => True) (fun _ U o U' => ∃ v L, o = .returned v ∧ Q v U'.heap L ∧ FrameEnd U o U' L ({ frames := F, cells := 0, slots := 0, locals := W0 } : Room).cells ({ frames := F, cells := 0, slots := 0, locals := W0 } : Room).slots))
    (hf : F + 1 ≤ R.frames) (hl : W + (maxL + 11) + W0 ≤ R.locals) (hc : cells ≤ R.cells) (hs : slots ≤ R.slots) (eT : T.heap = h) {g : JFrame} (hg : g.method = m) (hsize : g.locals.size = c.maxLocals) (hlen : ∀ sig, parseMethodDescriptor y.desc = some sig → argsL.length = sig.parameters.length)
    (hstack : g.stack = argsL.reverse ++ rest) (hW : 2 * g.monitorRoom + (rest.map fun v => v.category).sum ≤ W) (hd : decode c.code g.pc = .ok (.invokestatic index, 3)) :
    ∃ T', Stand p l e R s m args below meth c T' locs cells slots ∧ T'.heap = h ∧ ∀ target, Steps p.tables e below (T'.setTop { g with pc := g.pc + 3, stack := r :: rest }) target → Steps p.tables e below (T.setTop g) target := by
  obtain ⟨_, _, ⟨T18, L18, k18, n18⟩, -, X18, ⟨Lc, hq, l18, y18, z18⟩, st⟩ := Jvm.LawKit.callS X hx hown (mvT hZ w1) (mvT hZ w2) (mvT hZ w3) (mvT hZ w4) hy (backOf (W := W) hM hZ w4 w3 hf hl) hg hsize hlen hstack hW hd (fun _ _ => ⟨rfl, eT, hc, hs⟩)
  dsimp only [Pt.U, Pt.locs, Pt.cells, Pt.slots] at X18 l18 y18 z18 st hq
  subst l18 y18 z18
  obtain ⟨rfl, rfl, e18⟩ := hQ _ _ _ hq
  rw [List.append_nil] at X18
  exact ⟨T18, X18, e18, st⟩
end Own
end Jvm.RoadKit
namespace Jvm.RoadKit
open Sem ClassFile Op Lib Jvm.Stand Jvm.Free Jvm.LawKit
section OwnHeap
variable {p : Program} {l : Launch} {e : Env} {R : Room} {s : State} {m : MethodId} {args : Array Value} {below : List Frame} {meth : Method} {c : Code} {T : State} {locs : List Loc} {cells slots : Nat} {Z : State} {a0 : Array Value} {h h' : Heap} {a b : Addr} {ty : FieldType} {n : Nat} {f : Nat → Int32}
/-- a law's end: what it returns; nothing old was written -/
def PG (n0 : Nat) (r : Int32) (v : Option Value) (h : Heap) (L : List Loc) : Prop := v = some (.int r) ∧ Fr n0 L
/-- an array of n ints (bytes, chars ..): place j holds f j -/
def Ari (Z : State) (h : Heap) (a : Addr) (ty : FieldType) (n : Nat) (f : Nat → Int32) : Prop := ∃ c : Cell, Arr Z h a c ty ∧ c.slots.size = n ∧ n < 2 ^ 31 ∧ ∀ j, j < n → c.slots[j]? = some (.int (f j)) ∧ fits ty (.int (f j)) = true
theorem Ari.lt (F : Ari Z h a ty n f) : a < h.size := by obtain ⟨c, A, -⟩ := F; exact A.lt
theorem Ari.ext (F : Ari Z h a ty n f) (E : Ext h h') : Ari Z h' a ty n f := by obtain ⟨c, A, r⟩ := F; exact ⟨c, A.ext E, r⟩
theorem Ari.other {v : Value} {sl : Nat} (F : Ari Z h b ty n f) (W : Wr h h' a sl v) (q : b ≠ a) : Ari Z h' b ty n f := by obtain ⟨c, A, r⟩ := F; exact ⟨c, A.other W q, r⟩
theorem Ari.keep {ws : List Addr} (F : Ari Z h a ty n f) (K : Keep h h' ws) (q : a ∉ ws) : Ari Z h' a ty n f := by obtain ⟨c, A, r⟩ := F; exact ⟨c, ⟨K.2.1 a c A.1 q, A.2⟩, r⟩
theorem Ari.cast {g : Nat → Int32} (F : Ari Z h a ty n f) (q : ∀ j, j < n → f j = g j) : Ari Z h a ty n g := by
  obtain ⟨c, A, h1, h2, h3⟩ := F
  exact ⟨c, A, h1, h2, fun j hj => by rw [← q j hj]; exact h3 j hj⟩
def updI (f : Nat → Int32) (i : Nat) (x : Int32) : Nat → Int32 := fun j => if j = i then x else f j
theorem Ari.store {i : Nat} {x : Int32} (F : Ari Z h a ty n f) (W : Wr h h' a i (.int x)) (hi : i < n) (hx : fits ty (.int x) = true) : Ari Z h' a ty n (updI f i x) := by
  obtain ⟨c, A, h1, h2, h3⟩ := F
  refine ⟨c.setSlot i (.int x), A.same W, by rw [sz_set]; exact h1, h2, fun j hj => ?_⟩
  by_cases e : j = i
  · subst e
    simp only [updI, if_true]
    exact ⟨by simp [Cell.setSlot, h1, hj], hx⟩
  · simp only [updI, e, if_false]
    exact ⟨by rw [← (h3 j hj).1]; simp [Cell.setSlot, Array.getElem?_setIfInBounds, Ne.symm e], (h3 j hj).2⟩
theorem own_fitsI (x : Int32) : fits .int (.int x) = true := rfl
/-- newarray of N places -/
theorem newI (X : Stand p l e R s m args below meth c T locs cells slots) (hx : p.tables.exec = Jvm.exec) (hZ : Z.Warmed39 s.vm) {aty : ArrayType} (w : (Cond.arrayClass (newarray.typeOf aty)).before a0 Z = true) (eT : T.heap = h) {g : JFrame} (hg : g.method = m) (hd : decode c.code g.pc = .ok (.newarray aty, 2)) {z : Int32} {rest : List Value} (hs : g.stack = .int z :: rest)
    {N : Nat} (hz : z = Int32.ofNat N) {cap : Nat} (hcap : N ≤ cap) (hb : cap * 8 ≤ 536870912) (hc : cells + 1 ≤ R.cells) (hl : slots + cap ≤ R.slots) (hdv : defaultValue (newarray.typeOf aty) = .int 0) (hft : fits (newarray.typeOf aty) (.int 0) = true) :
    ∃ T' h', Stand p l e R s m args below meth c T' locs (cells + 1) (slots + cap) ∧ T'.heap = h' ∧ Ext h h' ∧ Ari Z h' h.size (newarray.typeOf aty) N (fun _ => 0) ∧ ∀ target, Steps p.tables e below (T'.setTop { g with pc := g.pc + 2, stack := .ref h.size :: rest }) target → Steps p.tables e below (T.setTop g) target := by
  have hN : N < 2 ^ 31 := by omega
  have ez : z.toInt = N := by rw [hz]; exact Int32.toInt_ofNat_of_lt hN
  have h0 : ¬ z < 0 := by rw [Int32.lt_iff_toInt_lt, ez]; have : (0 : Int32).toInt = 0 := rfl; omega
  have hn : z.toNatClampNeg = N := by have := nat_of h0; omega
  obtain ⟨T', h', cA, X', e', E, A, st⟩ := newP X hx hZ w eT hg hd hs h0 (cap := cap) (by omega) hb hc hl
  refine ⟨T', h', X', e', E, ⟨_, A, by rw [sz_new, hn], hN, fun j hj => ⟨?_, hft⟩⟩, st⟩
  simp [newA, hn, hj, hdv]
/-- iastore, bastore, castore at place i -/
theorem own_in {j : Int32} {i n : Nat} (hj : j = Int32.ofNat i) (hi : i < n) (hn : n < 2 ^ 31) : ¬ (j < 0 ∨ n ≤ j.toNatClampNeg) ∧ j.toNatClampNeg = i := by
  have ez : j.toInt = i := by rw [hj]; exact Int32.toInt_ofNat_of_lt (by omega)
  have h0 : ¬ j < 0 := by rw [Int32.lt_iff_toInt_lt, ez]; have : (0 : Int32).toInt = 0 := rfl; omega
  have hk : j.toNatClampNeg = i := by have := nat_of h0; omega
  exact ⟨by rintro (q | q); exact h0 q; omega, hk⟩
theorem stoI (X : Stand p l e R s m args below meth c T locs cells slots) (hx : p.tables.exec = Jvm.exec) (hZ : Z.Warmed39 s.vm) (eT : T.heap = h) (A : Ari Z h a .int n f) {j x : Int32} (i : Nat) (hj : j = Int32.ofNat i) (hi : i < n) {g : JFrame} (hg : g.method = m) {rest : List Value} (hs : g.stack = .int x :: .int j :: .ref a :: rest) (hd : decode c.code g.pc = .ok (.iastore, 1)) :
    ∃ T' h', Stand p l e R s m args below meth c T' (locs ++ [⟨a, i⟩]) cells slots ∧ T'.heap = h' ∧ Wr h h' a i (.int x) ∧ Ari Z h' a .int n (updI f i x) ∧ ∀ target, Steps p.tables e below (T'.setTop { g with pc := g.pc + 1, stack := rest }) target → Steps p.tables e below (T.setTop g) target := by
  have A' := A
  obtain ⟨cl, A1, h1, h2, h3⟩ := A
  obtain ⟨q1, q2⟩ := own_in hj hi h2
  obtain ⟨T', h', X', e', W, st⟩ := stI X hx hZ eT A1 (j := j) (by rw [h1]; exact q1) hg hs hd
  rw [q2] at X' W
  exact ⟨T', h', X', e', W, A'.store W hi rfl, st⟩
theorem stoB (X : Stand p l e R s m args below meth c T locs cells slots) (hx : p.tables.exec = Jvm.exec) (hZ : Z.Warmed39 s.vm) (eT : T.heap = h) (A : Ari Z h a .byte n f) {j x : Int32} (i : Nat) (hj : j = Int32.ofNat i) (hi : i < n) {g : JFrame} (hg : g.method = m) {rest : List Value} (hs : g.stack = .int x :: .int j :: .ref a :: rest) (hd : decode c.code g.pc = .ok (.bastore, 1)) :
    ∃ T' h', Stand p l e R s m args below meth c T' (locs ++ [⟨a, i⟩]) cells slots ∧ T'.heap = h' ∧ Wr h h' a i (.int x.toInt8.toInt32) ∧ Ari Z h' a .byte n (updI f i x.toInt8.toInt32) ∧ ∀ target, Steps p.tables e below (T'.setTop { g with pc := g.pc + 1, stack := rest }) target → Steps p.tables e below (T.setTop g) target := by
  have A' := A
  obtain ⟨cl, A1, h1, h2, h3⟩ := A
  obtain ⟨q1, q2⟩ := own_in hj hi h2
  obtain ⟨T', h', X', e', W, st⟩ := stB X hx hZ eT A1 (j := j) (by rw [h1]; exact q1) hg hs hd
  rw [q2] at X' W
  exact ⟨T', h', X', e', W, A'.store W hi (fits_nar_byte x), st⟩
theorem stoC (X : Stand p l e R s m args below meth c T locs cells slots) (hx : p.tables.exec = Jvm.exec) (hZ : Z.Warmed39 s.vm) (eT : T.heap = h) (A : Ari Z h a .char n f) {j x : Int32} (i : Nat) (hj : j = Int32.ofNat i) (hi : i < n) {g : JFrame} (hg : g.method = m) {rest : List Value} (hs : g.stack = .int x :: .int j :: .ref a :: rest) (hd : decode c.code g.pc = .ok (.castore, 1)) :
    ∃ T' h', Stand p l e R s m args below meth c T' (locs ++ [⟨a, i⟩]) cells slots ∧ T'.heap = h' ∧ Wr h h' a i (.int (nar .char x)) ∧ Ari Z h' a .char n (updI f i (nar .char x)) ∧ ∀ target, Steps p.tables e below (T'.setTop { g with pc := g.pc + 1, stack := rest }) target → Steps p.tables e below (T.setTop g) target := by
  have A' := A
  obtain ⟨cl, A1, h1, h2, h3⟩ := A
  obtain ⟨q1, q2⟩ := own_in hj hi h2
  obtain ⟨T', h', X', e', W, st⟩ := stC X hx hZ eT A1 (j := j) (by rw [h1]; exact q1) hg hs hd
  rw [q2] at X' W
  exact ⟨T', h', X', e', W, A'.store W hi (fits_nar_char x), st⟩
/-- iaload, baload at place i; arraylength -/
theorem rdI (X : Stand p l e R s m args below meth c T locs cells slots) (hx : p.tables.exec = Jvm.exec) (hZ : Z.Warmed39 s.vm) (eT : T.heap = h) (A : Ari Z h a .int n f) {j : Int32} (i : Nat) (hj : j = Int32.ofNat i) (hi : i < n) {g : JFrame} (hg : g.method = m) {rest : List Value} (hs : g.stack = .int j :: .ref a :: rest) (hd : decode c.code g.pc = .ok (.iaload, 1)) :
    ∀ target, Steps p.tables e below (T.setTop { g with pc := g.pc + 1, stack := .int (f i) :: rest }) target → Steps p.tables e below (T.setTop g) target := by
  obtain ⟨cl, A1, h1, h2, h3⟩ := A
  obtain ⟨q1, q2⟩ := own_in hj hi h2
  intro target k
  exact X.iaload hx (by rw [eT]; exact A1.1) (State.isArrayOf_alike hZ.alike A1.2.1) A1.2.2 (by rw [h1]; exact q1) (by rw [q2]; exact (h3 i hi).1) hg hs hd _ k
theorem rdB (X : Stand p l e R s m args below meth c T locs cells slots) (hx : p.tables.exec = Jvm.exec) (hZ : Z.Warmed39 s.vm) (eT : T.heap = h) (A : Ari Z h a .byte n f) {j : Int32} (i : Nat) (hj : j = Int32.ofNat i) (hi : i < n) {g : JFrame} (hg : g.method = m) {rest : List Value} (hs : g.stack = .int j :: .ref a :: rest) (hd : decode c.code g.pc = .ok (.baload, 1)) :
    ∀ target, Steps p.tables e below (T.setTop { g with pc := g.pc + 1, stack := .int (f i) :: rest }) target → Steps p.tables e below (T.setTop g) target := by
  obtain ⟨cl, A1, h1, h2, h3⟩ := A
  obtain ⟨q1, q2⟩ := own_in hj hi h2
  intro target k
  exact X.baloadBytes hx (by rw [eT]; exact A1.1) (State.isArrayOf_alike hZ.alike A1.2.1) A1.2.2 (by rw [h1]; exact q1) (by rw [q2]; exact (h3 i hi).1) hg hs hd _ k
theorem rdL (X : Stand p l e R s m args below meth c T locs cells slots) (hx : p.tables.exec = Jvm.exec) (hZ : Z.Warmed39 s.vm) (eT : T.heap = h) (A : Ari Z h a ty n f) {g : JFrame} (hg : g.method = m) {rest : List Value} (hs : g.stack = .ref a :: rest) (hd : decode c.code g.pc = .ok (.arraylength, 1)) :
    ∀ target, Steps p.tables e below (T.setTop { g with pc := g.pc + 1, stack := .int (Int32.ofNat n) :: rest }) target → Steps p.tables e below (T.setTop g) target := by
  obtain ⟨cl, A1, h1, h2, h3⟩ := A
  intro target k
  refine X.arraylength hx (by rw [eT]; exact A1.1) (State.isArrayOf_alike hZ.alike A1.2.1) hg hs hd _ ?_
  rw [h1]
  exact k
/-- calls by a contract that may make and write -/
theorem callX (X : Stand p l e R s m args below meth c T locs cells slots) (hx : p.tables.exec = Jvm.exec) (hZ : Z.Warmed39 s.vm) {own : String} {index : Nat} {y : MethodName} {bytes : ByteArray} {maxL : Nat} {ret : Option FieldType} (hown : s.vm.findClass own = some m.cls)
    (w1 : (Cond.methodLink own index y).before a0 Z = true) (w2 : (Cond.static y).before a0 Z = true) (w3 : (Cond.initialized y.cls).before a0 Z = true) (w4 : (Cond.code y bytes maxL ret).before a0 Z = true) (hy : y.cls ≠ "java/lang/invoke/MethodHandle" ∧ y.cls ≠ "java/lang/invoke/VarHandle")
    {rm : Room} {W : Nat} {argsL rest : List Value} {Q : Option Value → Heap → List Loc → Prop}
    (hM : MetFree l y (head1 [Cond.code y bytes maxL ret] rm) (fun a U => a = argsL.toArray ∧ Z.Warmed39 U.vm ∧ U.heap = h) (fun _ _ _ _ _ => True) (fun _ U o U' => ∃ v L, o = .returned v ∧ Q v U'.heap L ∧ FrameEnd U o U' L rm.cells rm.slots))
    (hf : rm.frames + 1 ≤ R.frames) (hl : W + (maxL + 11) + rm.locals ≤ R.locals) (hc : cells + rm.cells ≤ R.cells) (hs : slots + rm.slots ≤ R.slots) (eT : T.heap = h) {g : JFrame} (hg : g.method = m) (hsize : g.locals.size = c.maxLocals) (hlen : ∀ sig, parseMethodDescriptor y.desc = some sig → argsL.length = sig.parameters.length)
    (hstack : g.stack = argsL.reverse ++ rest) (hW : 2 * g.monitorRoom + (rest.map fun v => v.category).sum ≤ W) (hd : decode c.code g.pc = .ok (.invokestatic index, 3)) :
    ∃ v T' h' L, Stand p l e R s m args below meth c T' (locs ++ L) (cells + rm.cells) (slots + rm.slots) ∧ T'.heap = h' ∧ Q v h' L ∧ ∀ target, Steps p.tables e below (T'.setTop { g with pc := g.pc + 3, stack := v.toList ++ rest }) target → Steps p.tables e below (T.setTop g) target := by
  obtain ⟨v, _, ⟨T18, L18, k18, n18⟩, -, X18, ⟨Lc, hq, l18, y18, z18⟩, st⟩ := Jvm.LawKit.callS X hx hown (mvT hZ w1) (mvT hZ w2) (mvT hZ w3) (mvT hZ w4) hy (backOf (W := W) hM hZ w4 w3 hf hl) hg hsize hlen hstack hW hd (fun _ _ => ⟨rfl, eT, hc, hs⟩)
  dsimp only [Pt.U, Pt.locs, Pt.cells, Pt.slots] at X18 l18 y18 z18 st hq
  subst l18 y18 z18
  exact ⟨v, T18, _, Lc, X18, rfl, hq, st⟩
theorem callXV (X : Stand p l e R s m args below meth c T locs cells slots) (hx : p.tables.exec = Jvm.exec) (hZ : Z.Warmed39 s.vm) {own C : String} {index : Nat} {y z : MethodName} {bytes : ByteArray} {maxL : Nat} {ret : Option FieldType} (hown : s.vm.findClass own = some m.cls)
    (w1 : (Cond.methodLink own index y).before a0 Z = true) (w2 : (Cond.declares y).before a0 Z = true) (w3 : (Cond.selects C y z).before a0 Z = true) (w4 : (Cond.instanceMethod z).before a0 Z = true) (w5 : (Cond.code z bytes maxL ret).before a0 Z = true) (w6 : (Cond.initialized z.cls).before a0 Z = true) (hnf : NotFace s y) (hy : y.cls ≠ "java/lang/invoke/MethodHandle" ∧ y.cls ≠ "java/lang/invoke/VarHandle")
    {rm : Room} {W : Nat} {argsL rest : List Value} {Q : Option Value → Heap → List Loc → Prop}
    (hM : MetFree l z (head1 [Cond.code z bytes maxL ret] rm) (fun a U => a = (.ref b :: argsL).toArray ∧ Z.Warmed39 U.vm ∧ U.heap = h) (fun _ _ _ _ _ => True) (fun _ U o U' => ∃ v L, o = .returned v ∧ Q v U'.heap L ∧ FrameEnd U o U' L rm.cells rm.slots))
    (hf : rm.frames + 1 ≤ R.frames) (hl : W + (maxL + 11) + rm.locals ≤ R.locals) (hc : cells + rm.cells ≤ R.cells) (hs : slots + rm.slots ≤ R.slots) (eT : T.heap = h) (E : Exa Z h b C) {g : JFrame} (hg : g.method = m) (hsize : g.locals.size = c.maxLocals) (hlen : ∀ sig, parseMethodDescriptor y.desc = some sig → argsL.length = sig.parameters.length)
    (hstack : g.stack = argsL.reverse ++ .ref b :: rest) (hW : 2 * g.monitorRoom + (rest.map fun v => v.category).sum ≤ W) (hd : decode c.code g.pc = .ok (.invokevirtual index, 3)) :
    ∃ v T' h' L, Stand p l e R s m args below meth c T' (locs ++ L) (cells + rm.cells) (slots + rm.slots) ∧ T'.heap = h' ∧ Q v h' L ∧ ∀ target, Steps p.tables e below (T'.setTop { g with pc := g.pc + 3, stack := v.toList ++ rest }) target → Steps p.tables e below (T.setTop g) target := by
  obtain ⟨cq, kq, qa, qb, qc⟩ := isOf hZ eT E
  obtain ⟨v, _, ⟨T18, L18, k18, n18⟩, -, X18, ⟨Lc, hq, l18, y18, z18⟩, st⟩ := X.virtualBack hx hown (mvT hZ w1) (mvT hZ w2) hnf (mvT hZ w3) (mvT hZ w4) hy (backOf (W := W) hM hZ w5 w6 hf hl) qa qc hg hsize (Steps.refl _) hlen hstack hW hd (fun _ _ => ⟨rfl, eT, hc, hs⟩)
  dsimp only [Pt.U, Pt.locs, Pt.cells, Pt.slots] at X18 l18 y18 z18 st hq
  subst l18 y18 z18
  exact ⟨v, T18, _, Lc, X18, rfl, hq, fun _ k => st.trans k⟩
theorem callXP (X : Stand p l e R s m args below meth c T locs cells slots) (hx : p.tables.exec = Jvm.exec) (hZ : Z.Warmed39 s.vm) {own C : String} {index ki : Nat} {y : MethodName} {bytes : ByteArray} {maxL : Nat} {ret : Option FieldType} (hown : s.vm.findClass own = some m.cls)
    (w1 : (Cond.methodLink own index y).before a0 Z = true) (w4 : (Cond.instanceMethod y).before a0 Z = true) (wp : (Cond.privateMethod y).before a0 Z = true) (wi : (Cond.instantiable y.cls ki).before a0 Z = true) (w5 : (Cond.code y bytes maxL ret).before a0 Z = true) (w6 : (Cond.initialized y.cls).before a0 Z = true) (hy : y.cls ≠ "java/lang/invoke/MethodHandle" ∧ y.cls ≠ "java/lang/invoke/VarHandle")
    {rm : Room} {W : Nat} {argsL rest : List Value} {Q : Option Value → Heap → List Loc → Prop}
    (hM : MetFree l y (head1 [Cond.code y bytes maxL ret] rm) (fun a U => a = (.ref b :: argsL).toArray ∧ Z.Warmed39 U.vm ∧ U.heap = h) (fun _ _ _ _ _ => True) (fun _ U o U' => ∃ v L, o = .returned v ∧ Q v U'.heap L ∧ FrameEnd U o U' L rm.cells rm.slots))
    (hf : rm.frames + 1 ≤ R.frames) (hl : W + (maxL + 11) + rm.locals ≤ R.locals) (hc : cells + rm.cells ≤ R.cells) (hs : slots + rm.slots ≤ R.slots) (eT : T.heap = h) (E : Exa Z h b C) {g : JFrame} (hg : g.method = m) (hsize : g.locals.size = c.maxLocals) (hlen : ∀ sig, parseMethodDescriptor y.desc = some sig → argsL.length = sig.parameters.length)
    (hstack : g.stack = argsL.reverse ++ .ref b :: rest) (hW : 2 * g.monitorRoom + (rest.map fun v => v.category).sum ≤ W) (hd : decode c.code g.pc = .ok (.invokevirtual index, 3)) :
    ∃ v T' h' L, Stand p l e R s m args below meth c T' (locs ++ L) (cells + rm.cells) (slots + rm.slots) ∧ T'.heap = h' ∧ Q v h' L ∧ ∀ target, Steps p.tables e below (T'.setTop { g with pc := g.pc + 3, stack := v.toList ++ rest }) target → Steps p.tables e below (T.setTop g) target := by
  have hp : s.PrivateAt y := Cond.privateMethod_at (mvP hZ wp (args := #[]))
  obtain ⟨cc, kk, hcc, hkk, -, hni, -, -⟩ := Cond.instantiable_spec (args := #[]) (mvT hZ wi)
  have hsel : (Cond.selects y.cls y y).before args s = true := selects_self_of_private hcc hkk (Bool.or_eq_false_iff.mp hni).1 hp (mvT hZ w4) hy
  obtain ⟨cq, q3, q3'⟩ := E.cell
  obtain ⟨v, _, ⟨T18, L18, k18, n18⟩, -, X18, ⟨Lc, hq, l18, y18, z18⟩, st⟩ := X.privateBack hx hown (mvT hZ w1) (mvT hZ w4) hsel hp (mvT hZ w5) hy (backOf (W := W) hM hZ w5 w6 hf hl) hg hsize (Steps.refl _) (a := b) (by rw [eT]; exact q3) q3' hlen hstack hW hd (fun _ _ => ⟨rfl, eT, hc, hs⟩)
  dsimp only [Pt.U, Pt.locs, Pt.cells, Pt.slots] at X18 l18 y18 z18 st hq
  subst l18 y18 z18
  exact ⟨v, T18, _, Lc, X18, rfl, hq, fun _ k => st.trans k⟩
theorem callXI (X : Stand p l e R s m args below meth c T locs cells slots) (hx : p.tables.exec = Jvm.exec) (hZ : Z.Warmed39 s.vm) {own : String} {index : Nat} {y : MethodName} {bytes : ByteArray} {maxL : Nat} (hown : s.vm.findClass own = some m.cls) (hy1 : y.name = "<init>")
    (w1 : (Cond.methodLink own index y).before a0 Z = true) (w4 : (Cond.instanceMethod y).before a0 Z = true) (w5 : (Cond.code y bytes maxL none).before a0 Z = true) (w6 : (Cond.initialized y.cls).before a0 Z = true) (hy : y.cls ≠ "java/lang/invoke/MethodHandle" ∧ y.cls ≠ "java/lang/invoke/VarHandle")
    {rm : Room} {W : Nat} {argsL rest : List Value} {Q : Option Value → Heap → List Loc → Prop}
    (hM : MetFree l y (head1 [Cond.code y bytes maxL none] rm) (fun a U => a = (.ref b :: argsL).toArray ∧ Z.Warmed39 U.vm ∧ U.heap = h) (fun _ _ _ _ _ => True) (fun _ U o U' => ∃ v L, o = .returned v ∧ Q v U'.heap L ∧ FrameEnd U o U' L rm.cells rm.slots))
    (hf : rm.frames + 1 ≤ R.frames) (hl : W + (maxL + 11) + rm.locals ≤ R.locals) (hc : cells + rm.cells ≤ R.cells) (hs : slots + rm.slots ≤ R.slots) (eT : T.heap = h) {g : JFrame} (hg : g.method = m) (hsize : g.locals.size = c.maxLocals) (hlen : ∀ sig, parseMethodDescriptor y.desc = some sig → argsL.length = sig.parameters.length)
    (hstack : g.stack = argsL.reverse ++ .ref b :: rest) (hW : 2 * g.monitorRoom + (rest.map fun v => v.category).sum ≤ W) (hd : decode c.code g.pc = .ok (.invokespecial index, 3)) :
    ∃ v T' h' L, Stand p l e R s m args below meth c T' (locs ++ L) (cells + rm.cells) (slots + rm.slots) ∧ T'.heap = h' ∧ Q v h' L ∧ ∀ target, Steps p.tables e below (T'.setTop { g with pc := g.pc + 3, stack := v.toList ++ rest }) target → Steps p.tables e below (T.setTop g) target := by
  obtain ⟨v, _, ⟨T18, L18, k18, n18⟩, -, X18, ⟨Lc, hq, l18, y18, z18⟩, st⟩ := X.specialBack hx hy1 hown (mvT hZ w1) (mvT hZ w4) (mvT hZ w5) hy (backOf (W := W) hM hZ w5 w6 hf hl) hg hsize (Steps.refl _) hlen hstack hW hd (fun _ _ => ⟨rfl, eT, hc, hs⟩)
  dsimp only [Pt.U, Pt.locs, Pt.cells, Pt.slots] at X18 l18 y18 z18 st hq
  subst l18 y18 z18
  exact ⟨v, T18, _, Lc, X18, rfl, hq, fun _ k => st.trans k⟩
/-- arrays as lists, for System.arraycopy -/
theorem Ari.arv (F : Ari Z h a ty n f) : ∃ k, Arv Z h a k ty (Int32.ofNat n) ((List.range n).map fun j => Value.int (f j)) (.int 0) := by
  obtain ⟨cl, A, h1, h2, h3⟩ := F
  have ez : (Int32.ofNat n).toInt = n := Int32.toInt_ofNat_of_lt h2
  have h0 : ¬ Int32.ofNat n < 0 := by rw [Int32.lt_iff_toInt_lt, ez]; have : (0 : Int32).toInt = 0 := rfl; omega
  have hk : (Int32.ofNat n).toNatClampNeg = n := by have := nat_of h0; omega
  have q : ∀ i, i < n → ((List.range n).map fun j => Value.int (f j)).getD i (.int 0) = .int (f i) := fun i hi => by simp [List.getD_eq_getElem?_getD, hi]
  exact ⟨cl.cls, cl, A, rfl, by rw [hk]; exact h1, h0, fun i hi => by rw [q i (h1 ▸ hi)]; exact (h3 i (h1 ▸ hi)).1, fun i hi => by rw [q i (h1 ▸ hi)]; exact (h3 i (h1 ▸ hi)).2⟩
theorem Ari.of_arv {k : ClassId} {vs : List Value} {d : Value} {g : Nat → Int32} (F : Arv Z h a k ty (Int32.ofNat n) vs d) (hn : n < 2 ^ 31) (q : ∀ j, j < n → vs.getD j d = .int (g j)) : Ari Z h a ty n g := by
  obtain ⟨cl, A, -, h1, h0, H, G⟩ := F
  have ez : (Int32.ofNat n).toInt = n := Int32.toInt_ofNat_of_lt hn
  have hk : (Int32.ofNat n).toNatClampNeg = n := by have := nat_of h0; omega
  rw [hk] at h1
  exact ⟨cl, A, h1, hn, fun j hj => by rw [← q j hj]; exact ⟨H j (h1 ▸ hj), G j (h1 ▸ hj)⟩⟩
def blit (f g : Nat → Int32) (sp dp k : Nat) : Nat → Int32 := fun j => if dp ≤ j ∧ j < dp + k then f (sp + (j - dp)) else g j
theorem own_blit (f g : Nat → Int32) (n N sp dp k : Nat) (h1 : sp + k ≤ n) (h2 : dp + k ≤ N) (j : Nat) (hj : j < N) :
    (((List.range N).map fun j => Value.int (g j)).take dp ++ ((List.range k).map fun i => ((List.range n).map fun j => Value.int (f j)).getD (sp + i) (.int 0)) ++ ((List.range N).map fun j => Value.int (g j)).drop (dp + k)).getD j (.int 0) = .int (blit f g sp dp k j) := by
  simp only [blit, List.getD_eq_getElem?_getD]
  by_cases q1 : j < dp
  · have e : ¬ (dp ≤ j ∧ j < dp + k) := by omega
    rw [if_neg e, List.append_assoc, List.getElem?_append_left (by simp; omega)]
    simp [List.getElem?_take, q1, hj]
  · by_cases q2 : j < dp + k
    · rw [if_pos ⟨by omega, q2⟩, List.append_assoc, List.getElem?_append_right (by simp; omega), List.getElem?_append_left (by simp; omega)]
      have e1 : min dp N = dp := by omega
      have e2 : j - dp < k := by omega
      have e3 : sp + (j - dp) < n := by omega
      simp [e1, e2, e3]
    · have e : ¬ (dp ≤ j ∧ j < dp + k) := by omega
      rw [if_neg e, List.append_assoc, List.getElem?_append_right (by simp; omega), List.getElem?_append_right (by simp; omega)]
      have e1 : min dp N = dp := by omega
      have e2 : dp + k + (j - dp - k) = j := by omega
      simp [e1, e2, hj]
theorem copyI (X : Stand p l e R s m args below meth c T locs cells slots) (hx : p.tables.exec = Jvm.exec) (hZ : Z.Warmed39 s.vm) {own : String} {index : Nat} (hown : s.vm.findClass own = some m.cls)
    (w1 : (Cond.methodLink own index Jvm.Stand.acN).before a0 Z = true) (w2 : (Cond.native Jvm.Stand.acN).before a0 Z = true) (w3 : (Cond.static Jvm.Stand.acN).before a0 Z = true) (w4 : (Cond.initialized "java/lang/System").before a0 Z = true) (eT : T.heap = h)
    {N sp dp k : Nat} {g' : Nat → Int32} {zs zd zk : Int32} (A : Ari Z h a ty n f) (B : Ari Z h b ty N g') (hty : refKind ty = false) (es : zs = Int32.ofNat sp) (ed : zd = Int32.ofNat dp) (ek : zk = Int32.ofNat k) (h1 : sp + k ≤ n) (h2 : dp + k ≤ N) {n0 : Nat} (NF : Fr n0 locs) (ge : n0 ≤ b)
    {g : JFrame} (hg : g.method = m) (hsize : g.locals.size = c.maxLocals) {rest : List Value} (hs : g.stack = .int zk :: .int zd :: .ref b :: .int zs :: .ref a :: rest) (hd : decode c.code g.pc = .ok (.invokestatic index, 3))
    (hf : 1 ≤ R.frames) {W : Nat} (hW : 2 * g.monitorRoom + (rest.map fun v => v.category).sum ≤ W) (hlo : W + (nativeFrameWords "java/lang/System" "arraycopy" 5 + 11) ≤ R.locals) :
    ∃ T' h' L, Stand p l e R s m args below meth c T' L cells slots ∧ T'.heap = h' ∧ Fr n0 L ∧ Keep h h' [b] ∧ Ari Z h' b ty N (blit f g' sp dp k) ∧
      ∀ target, Steps p.tables e below (T'.setTop { g with pc := g.pc + 3, stack := rest }) target → Steps p.tables e below (T.setTop g) target := by
  have hn : n < 2 ^ 31 := by obtain ⟨_, _, _, q, _⟩ := A; exact q
  have hN : N < 2 ^ 31 := by obtain ⟨_, _, _, q, _⟩ := B; exact q
  have nz : ∀ {z : Int32} {i : Nat}, z = Int32.ofNat i → i < 2 ^ 31 → ¬ z < 0 ∧ z.toNatClampNeg = i := fun {z i} e hi => by
    have ez : z.toInt = i := by rw [e]; exact Int32.toInt_ofNat_of_lt hi
    have h0 : ¬ z < 0 := by rw [Int32.lt_iff_toInt_lt, ez]; have : (0 : Int32).toInt = 0 := rfl; omega
    exact ⟨h0, by have := nat_of h0; omega⟩
  obtain ⟨ka, VA⟩ := A.arv
  obtain ⟨kb, VB⟩ := B.arv
  obtain ⟨s1, s2⟩ := nz es (by omega)
  obtain ⟨d1, d2⟩ := nz ed (by omega)
  obtain ⟨k1, k2⟩ := nz ek (by omega)
  have n2 := (nz (rfl : Int32.ofNat n = Int32.ofNat n) hn).2
  have N2 := (nz (rfl : Int32.ofNat N = Int32.ofNat N) hN).2
  obtain ⟨T', h', L, X', e', F', K', V', st⟩ := cpA X hx hZ hown w1 w2 w3 w4 eT (sp := zs) (dp := zd) (nn := zk) VA VB (Or.inl ⟨rfl, hty⟩) s1 d1 k1 (by rw [s2, k2, n2]; exact h1) (by rw [d2, k2, N2]; exact h2) rfl (by rw [d2, k2]; simp; exact h2) NF ge hg hsize hs hd hf hW hlo
  refine ⟨T', h', L, X', e', F', K', Ari.of_arv V' hN fun j hj => ?_, st⟩
  rw [s2, d2, k2]
  exact own_blit f g' n N sp dp k h1 h2 j hj
/-- a class of objects that isn't a subclass of another one -/
theorem own_noinst {C S K : String} {ki : Nat} (w : (Cond.superclass C S).before a0 Z = true) (wr : (Cond.noSuperclass S).before a0 Z = true) (wi : (Cond.instantiable K ki).before a0 Z = true) (h1 : S ≠ K) (h2 : C ≠ K) : ∃ c t, Z.vm.findClass C = some c ∧ Z.vm.findClass K = some t ∧ Z.vm.assignable c t = false := by
  obtain ⟨t, kt, g1, g2, g3, g4, -⟩ := Cond.instantiable_spec wi
  have root : NS Z S K := by
    obtain ⟨c, k, q1, q2, q3, -, -⟩ := Cond.noSuperclass_spec wr
    have ne := ids_ne q1 g1 h1
    refine ⟨c, t, q1, g1, fun fuel => ?_⟩
    cases fuel with
    | zero => rfl
    | succ f => simp [Vm.isSubclassAux, ne, q2, q3]
  obtain ⟨c, t', h0, g0, n3⟩ := NS.step w root h2
  cases g1.symm.trans g0
  obtain ⟨p, k, kp, r1, r2, r3, r4, r5, -, r7⟩ := Cond.superclass_spec h0 w
  have ne := ids_ne h0 g1 h2
  refine ⟨c, t, h0, g1, ?_⟩
  show Z.vm.assignableAux (255 + 1) c t = false
  have gi := (Bool.or_eq_false_iff.mp g4).1
  simp [Vm.assignableAux, ne, r2, g2, r5, g3, gi, Vm.isSubclass, n3]
end OwnHeap
end Jvm.RoadKit
namespace Jvm.Pilot.@@N@@
open Jvm Jvm.ClassFile Sem Op Lib Jvm.Free Jvm.Stand Jvm.LawKit Jvm.RoadKit Bundle Jvm.Pilot.@@N@@.Jvm.D
theorem d5_0 : decode jdk_29_method_65_code 0 = .ok (.iload_n 0, 1) := by decide +kernel
theorem d5_1 : decode jdk_29_method_65_code 1 = .ok (.iload_n 1, 1) := by decide +kernel
theorem d5_2 : decode jdk_29_method_65_code 2 = .ok (.if_icmp .lt 7, 3) := by decide +kernel
theorem d5_5 : decode jdk_29_method_65_code 5 = .ok (.iload_n 0, 1) := by decide +kernel
theorem d5_6 : decode jdk_29_method_65_code 6 = .ok (.goto 4, 3) := by decide +kernel
theorem d5_9 : decode jdk_29_method_65_code 9 = .ok (.iload_n 1, 1) := by decide +kernel
theorem d5_10 : decode jdk_29_method_65_code 10 = .ok (.ireturn, 1) := by decide +kernel
theorem ef_5 (m : MethodId) (p1 : Int32) (p2 : Int32) : entryFrame m #[(.int p1), (.int p2)] 2 = mkF m 0 #[.val (.int p1), .val (.int p2)] [] := by first | (simp [entryFrame, mkF, argsToLocals, Value.category]; done) | rfl
def f5 (p1 : Int32) (p2 : Int32) : Int32 := (if (p1 < p2) then p2 else p1)
set_option maxRecDepth 65536 in
set_option maxHeartbeats 40000000 in
theorem rm5 (l : Launch) (Z : State) (a0 : Array Value) (hw : ∀ d ∈ tables_1, d.before a0 Z = true) (ws : List Jvm.Cond) (p1 : Int32) (p2 : Int32) (h0 : Heap)  :
    MetFree l (⟨"java/lang/Math", "max", "(II)I"⟩ : MethodName) (head1 (Jvm.Cond.code (⟨"java/lang/Math", "max", "(II)I"⟩ : MethodName) jdk_29_method_65_code 2 (some .int) :: ws) ({ frames := 0, cells := 0, slots := 0, locals := 0 } : Room)) (fun a U => a = #[(.int p1), (.int p2)] ∧ Z.Warmed39 U.vm ∧ U.heap = h0) (fun _ _ _ _ _ => True) (fun _ U o U' => ∃ v L, o = .returned v ∧ PI h0 (f5 p1 p2) v U'.heap L ∧ FrameEnd U o U' L ({ frames := 0, cells := 0, slots := 0, locals := 0 } : Room).cells ({ frames := 0, cells := 0, slots := 0, locals := 0 } : Room).slots) := by
  refine MetFree.of_bodySF (Jvm.Free.JP.mathPlain rfl (by decide +kernel)) hisR ?_
  intro p e s m args below meth c s₁ Bd hml0 hP hK
  obtain ⟨rfl, hZ, hh⟩ := hP
  have hx := Bd.exec
  have hby := Bd.bytes
  have hlk := Bd.notSynchronized
  have hml : c.maxLocals = 2 := hml0
  have hown : s.vm.findClass "java/lang/Math" = some m.cls := findClass_of_methodNamed Bd.named
  have X0 : Stand p l e ({ frames := 0, cells := 0, slots := 0, locals := 0 } : Room) s m #[(.int p1), (.int p2)] below meth c s₁ [] 0 0 := Stand.of_body Bd
  have e0 : s₁.heap = h0 := by rw [← hh, Bd.state]; rfl
  show Goes p e below s ({ frames := 0, cells := 0, slots := 0, locals := 0 } : Room).cells ({ frames := 0, cells := 0, slots := 0, locals := 0 } : Room).slots (PI h0 (f5 p1 p2)) s₁ (entryFrame m #[(.int p1), (.int p2)] 2)
  refine Goes.step (fun t k => castTop (ef_5 m p1 p2) k) ?_
  refine Goes.step (fun _ k => XS.iloadN X0.here hx rfl (hb hby d5_0) rfl k) ?_
  show Goes p e below s _ _ _ s₁ (mkF m 1 #[.val (.int p1), .val (.int p2)] [(.int p1)])
  refine Goes.step (fun _ k => XS.iloadN X0.here hx rfl (hb hby d5_1) rfl k) ?_
  show Goes p e below s _ _ _ s₁ (mkF m 2 #[.val (.int p1), .val (.int p2)] [(.int p2), (.int p1)])
  refine Goes.ite (Q := PI h0) (fun hc2 => ?_) (fun hc2 => ?_)
  · refine Goes.step (fun _ k => XS.icmpYes X0.here hx rfl (pc0 := 2) (pc' := 9) rfl (hb hby d5_2) rfl (tlt hc2).1 (by decide) (by decide) k) ?_
    show Goes p e below s _ _ _ s₁ (mkF m 9 #[.val (.int p1), .val (.int p2)] [])
    refine Goes.step (fun _ k => XS.iloadN X0.here hx rfl (hb hby d5_9) rfl k) ?_
    show Goes p e below s _ _ _ s₁ (mkF m 10 #[.val (.int p1), .val (.int p2)] [(.int p2)])
    exact Goes.outI X0 hx hlk Bd.returns (hb hby d5_10) ⟨rfl, rfl, e0⟩ (by decide) (by decide)
  · refine Goes.step (fun _ k => XS.icmpNo X0.here hx rfl (hb hby d5_2) rfl (flt hc2).1 k) ?_
    show Goes p e below s _ _ _ s₁ (mkF m 5 #[.val (.int p1), .val (.int p2)] [])
    refine Goes.step (fun _ k => XS.iloadN X0.here hx rfl (hb hby d5_5) rfl k) ?_
    show Goes p e below s _ _ _ s₁ (mkF m 6 #[.val (.int p1), .val (.int p2)] [(.int p1)])
    refine Goes.step (fun _ k => XS.goto X0.here hx rfl (pc0 := 6) (pc' := 10) rfl (hb hby d5_6) (by decide) (by decide) k) ?_
    show Goes p e below s _ _ _ s₁ (mkF m 10 #[.val (.int p1), .val (.int p2)] [(.int p1)])
    exact Goes.outI X0 hx hlk Bd.returns (hb hby d5_10) ⟨rfl, rfl, e0⟩ (by decide) (by decide)
theorem d7_0 : decode jdk_29_method_69_code 0 = .ok (.iload_n 0, 1) := by decide +kernel
theorem d7_1 : decode jdk_29_method_69_code 1 = .ok (.iload_n 1, 1) := by decide +kernel
theorem d7_2 : decode jdk_29_method_69_code 2 = .ok (.if_icmp .gt 7, 3) := by decide +kernel
theorem d7_5 : decode jdk_29_method_69_code 5 = .ok (.iload_n 0, 1) := by decide +kernel
theorem d7_6 : decode jdk_29_method_69_code 6 = .ok (.goto 4, 3) := by decide +kernel
theorem d7_9 : decode jdk_29_method_69_code 9 = .ok (.iload_n 1, 1) := by decide +kernel
theorem d7_10 : decode jdk_29_method_69_code 10 = .ok (.ireturn, 1) := by decide +kernel
theorem ef_7 (m : MethodId) (p1 : Int32) (p2 : Int32) : entryFrame m #[(.int p1), (.int p2)] 2 = mkF m 0 #[.val (.int p1), .val (.int p2)] [] := by first | (simp [entryFrame, mkF, argsToLocals, Value.category]; done) | rfl
def f7 (p1 : Int32) (p2 : Int32) : Int32 := (if (p2 < p1) then p2 else p1)
set_option maxRecDepth 65536 in
set_option maxHeartbeats 40000000 in
theorem rm7 (l : Launch) (Z : State) (a0 : Array Value) (hw : ∀ d ∈ tables_1, d.before a0 Z = true) (ws : List Jvm.Cond) (p1 : Int32) (p2 : Int32) (h0 : Heap)  :
    MetFree l (⟨"java/lang/Math", "min", "(II)I"⟩ : MethodName) (head1 (Jvm.Cond.code (⟨"java/lang/Math", "min", "(II)I"⟩ : MethodName) jdk_29_method_69_code 2 (some .int) :: ws) ({ frames := 0, cells := 0, slots := 0, locals := 0 } : Room)) (fun a U => a = #[(.int p1), (.int p2)] ∧ Z.Warmed39 U.vm ∧ U.heap = h0) (fun _ _ _ _ _ => True) (fun _ U o U' => ∃ v L, o = .returned v ∧ PI h0 (f7 p1 p2) v U'.heap L ∧ FrameEnd U o U' L ({ frames := 0, cells := 0, slots := 0, locals := 0 } : Room).cells ({ frames := 0, cells := 0, slots := 0, locals := 0 } : Room).slots) := by
  refine MetFree.of_bodySF (Jvm.Free.JP.mathPlain rfl (by decide +kernel)) hisR ?_
  intro p e s m args below meth c s₁ Bd hml0 hP hK
  obtain ⟨rfl, hZ, hh⟩ := hP
  have hx := Bd.exec
  have hby := Bd.bytes
  have hlk := Bd.notSynchronized
  have hml : c.maxLocals = 2 := hml0
  have hown : s.vm.findClass "java/lang/Math" = some m.cls := findClass_of_methodNamed Bd.named
  have X0 : Stand p l e ({ frames := 0, cells := 0, slots := 0, locals := 0 } : Room) s m #[(.int p1), (.int p2)] below meth c s₁ [] 0 0 := Stand.of_body Bd
  have e0 : s₁.heap = h0 := by rw [← hh, Bd.state]; rfl
  show Goes p e below s ({ frames := 0, cells := 0, slots := 0, locals := 0 } : Room).cells ({ frames := 0, cells := 0, slots := 0, locals := 0 } : Room).slots (PI h0 (f7 p1 p2)) s₁ (entryFrame m #[(.int p1), (.int p2)] 2)
  refine Goes.step (fun t k => castTop (ef_7 m p1 p2) k) ?_
  refine Goes.step (fun _ k => XS.iloadN X0.here hx rfl (hb hby d7_0) rfl k) ?_
  show Goes p e below s _ _ _ s₁ (mkF m 1 #[.val (.int p1), .val (.int p2)] [(.int p1)])
  refine Goes.step (fun _ k => XS.iloadN X0.here hx rfl (hb hby d7_1) rfl k) ?_
  show Goes p e below s _ _ _ s₁ (mkF m 2 #[.val (.int p1), .val (.int p2)] [(.int p2), (.int p1)])
  refine Goes.ite (Q := PI h0) (fun hc2 => ?_) (fun hc2 => ?_)
  · refine Goes.step (fun _ k => XS.icmpYes X0.here hx rfl (pc0 := 2) (pc' := 9) rfl (hb hby d7_2) rfl (tlt hc2).2.2.1 (by decide) (by decide) k) ?_
    show Goes p e below s _ _ _ s₁ (mkF m 9 #[.val (.int p1), .val (.int p2)] [])
    refine Goes.step (fun _ k => XS.iloadN X0.here hx rfl (hb hby d7_9) rfl k) ?_
    show Goes p e below s _ _ _ s₁ (mkF m 10 #[.val (.int p1), .val (.int p2)] [(.int p2)])
    exact Goes.outI X0 hx hlk Bd.returns (hb hby d7_10) ⟨rfl, rfl, e0⟩ (by decide) (by decide)
  · refine Goes.step (fun _ k => XS.icmpNo X0.here hx rfl (hb hby d7_2) rfl (flt hc2).2.2.1 k) ?_
    show Goes p e below s _ _ _ s₁ (mkF m 5 #[.val (.int p1), .val (.int p2)] [])
    refine Goes.step (fun _ k => XS.iloadN X0.here hx rfl (hb hby d7_5) rfl k) ?_
    show Goes p e below s _ _ _ s₁ (mkF m 6 #[.val (.int p1), .val (.int p2)] [(.int p1)])
    refine Goes.step (fun _ k => XS.goto X0.here hx rfl (pc0 := 6) (pc' := 10) rfl (hb hby d7_6) (by decide) (by decide) k) ?_
    show Goes p e below s _ _ _ s₁ (mkF m 10 #[.val (.int p1), .val (.int p2)] [(.int p1)])
    exact Goes.outI X0 hx hlk Bd.returns (hb hby d7_10) ⟨rfl, rfl, e0⟩ (by decide) (by decide)
theorem own_ne {N n : Nat} (h : N ≠ n) (h1 : N < 2 ^ 31) (h2 : n < 2 ^ 31) : ¬ Int32.ofNat N = Int32.ofNat n := by
  intro q
  have := congrArg Int32.toInt q
  rw [Int32.toInt_ofNat_of_lt h1, Int32.toInt_ofNat_of_lt h2] at this
  omega
theorem own_inj {N n : Nat} (h : Int32.ofNat N = Int32.ofNat n) (h1 : N < 2 ^ 31) (h2 : n < 2 ^ 31) : N = n := by
  have := congrArg Int32.toInt h
  rw [Int32.toInt_ofNat_of_lt h1, Int32.toInt_ofNat_of_lt h2] at this
  omega
theorem own_gt {a b : Nat} (h : Int32.ofNat a < Int32.ofNat b) (h1 : a < 2 ^ 31) (h2 : b < 2 ^ 31) : a < b := by
  rw [Int32.lt_iff_toInt_lt, Int32.toInt_ofNat_of_lt h1, Int32.toInt_ofNat_of_lt h2] at h
  omega
theorem own_le {a b : Nat} (h : ¬ Int32.ofNat a < Int32.ofNat b) (h1 : a < 2 ^ 31) (h2 : b < 2 ^ 31) : b ≤ a := by
  rw [Int32.lt_iff_toInt_lt, Int32.toInt_ofNat_of_lt h1, Int32.toInt_ofNat_of_lt h2] at h
  omega
theorem own_lt {a b : Nat} (h : a < b) (h2 : b < 2 ^ 31) : Int32.ofNat a < Int32.ofNat b := by
  rw [Int32.lt_iff_toInt_lt, Int32.toInt_ofNat_of_lt (by omega), Int32.toInt_ofNat_of_lt h2]
  omega
theorem own_nlt {a b : Nat} (h : b ≤ a) (h1 : a < 2 ^ 31) : ¬ Int32.ofNat a < Int32.ofNat b := by
  rw [Int32.lt_iff_toInt_lt, Int32.toInt_ofNat_of_lt h1, Int32.toInt_ofNat_of_lt (by omega)]
  omega
theorem own_max {a b : Nat} (h1 : a < 2 ^ 31) (h2 : b < 2 ^ 31) : f5 (Int32.ofNat a) (Int32.ofNat b) = Int32.ofNat (max a b) := by
  simp only [f5]
  by_cases q : a < b
  · rw [if_pos (own_lt q h2), Nat.max_eq_right (by omega)]
  · rw [if_neg (own_nlt (by omega) h1), Nat.max_eq_left (by omega)]
theorem own_min {a b : Nat} (h1 : a < 2 ^ 31) (h2 : b < 2 ^ 31) : f7 (Int32.ofNat a) (Int32.ofNat b) = Int32.ofNat (min a b) := by
  simp only [f7]
  by_cases q : b < a
  · rw [if_pos (own_lt q h1), Nat.min_eq_right (by omega)]
  · rw [if_neg (own_nlt (by omega) h2), Nat.min_eq_left (by omega)]
theorem own_cut (f : Nat → Int32) (n N : Nat) : ∀ j, j < N → blit f (fun _ => 0) 0 0 (min n N) j = (fun j => if j < n then f j else 0) j := by
  intro j hj
  simp only [blit]
  by_cases q : j < n
  · have : j < min n N := by omega
    simp [q, this]
  · have : ¬ j < min n N := by omega
    simp [q, this]
theorem own_BB (x : Int32) : x.toInt8.toInt32.toInt8.toInt32 = x.toInt8.toInt32 := by simp
theorem own_o2 {b1 b2 b : Addr} {h0 h1 : Heap} {ws : List Addr} (p : b1 = b ∨ h0.size ≤ b1) (q : b2 = b1 ∨ h1.size ≤ b2) (K : Keep h0 h1 ws) : b2 = b ∨ h0.size ≤ b2 := by
  rcases q with rfl | q
  · exact p
  · exact Or.inr (Nat.le_trans K.1 q)
theorem own_keepf (f : Nat → Int32) {n sz : Nat} (h : sz ≤ n) : ∀ j, j < sz → (fun j => if j < n then f j else 0) j = f j := by
  intro j hj
  have : j < n := by omega
  simp [this]
theorem own_u1 {F f : Nat → Int32} {sz : Nat} {v : Int32} (hf : ∀ j, j < sz → F j = f j) : ∀ j, j < sz → updI F sz v j = f j := by
  intro j hj
  have q : ¬ j = sz := by omega
  simp only [updI, q, if_false]
  exact hf j hj
theorem own_u2 {F f : Nat → Int32} {sz : Nat} {v w : Int32} (hf : ∀ j, j < sz → F j = f j) : ∀ j, j < sz → updI (updI F sz v) (sz + 1) w j = f j := by
  intro j hj
  have q1 : ¬ j = sz := by omega
  have q2 : ¬ j = sz + 1 := by omega
  simp only [updI, q1, q2, if_false]
  exact hf j hj
theorem own_put0 (F : Nat → Int32) (i : Nat) (x : Int32) : updI F i x.toInt8.toInt32.toInt8.toInt32 i = x.toInt8.toInt32 := by simp only [updI, if_true, own_BB]
theorem own_put1 (F : Nat → Int32) (i : Nat) (x y : Int32) : updI (updI F i x.toInt8.toInt32.toInt8.toInt32) (i + 1) y i = x.toInt8.toInt32 := by
  have q : ¬ i = i + 1 := by omega
  simp only [updI, q, if_true, if_false, own_BB]
theorem own_ari {Z : State} {h : Heap} {b : Addr} {ty : FieldType} {sz n : Nat} {f : Nat → Int32} (e : Int32.ofNat sz = Int32.ofNat n) (h1 : sz < 2 ^ 31) (h2 : n < 2 ^ 31) (A : Ari Z h b ty n f) : Ari Z h b ty sz f := by
  have := own_inj e h1 h2
  subst this
  exact A
theorem d6_0 : decode jdk_65_method_121_code 0 = .ok (.iload_n 1, 1) := by decide +kernel
theorem d6_1 : decode jdk_65_method_121_code 1 = .ok (.aload_n 0, 1) := by decide +kernel
theorem d6_2 : decode jdk_65_method_121_code 2 = .ok (.arraylength, 1) := by decide +kernel
theorem d6_3 : decode jdk_65_method_121_code 3 = .ok (.if_icmp .ne 11, 3) := by decide +kernel
theorem d6_14 : decode jdk_65_method_121_code 14 = .ok (.iload_n 1, 1) := by decide +kernel
theorem d6_15 : decode jdk_65_method_121_code 15 = .ok (.newarray .byte, 2) := by decide +kernel
theorem d6_17 : decode jdk_65_method_121_code 17 = .ok (.astore_n 2, 1) := by decide +kernel
theorem d6_18 : decode jdk_65_method_121_code 18 = .ok (.aload_n 0, 1) := by decide +kernel
theorem d6_19 : decode jdk_65_method_121_code 19 = .ok (.iconst 0, 1) := by decide +kernel
theorem d6_20 : decode jdk_65_method_121_code 20 = .ok (.aload_n 2, 1) := by decide +kernel
theorem d6_21 : decode jdk_65_method_121_code 21 = .ok (.iconst 0, 1) := by decide +kernel
theorem d6_22 : decode jdk_65_method_121_code 22 = .ok (.aload_n 0, 1) := by decide +kernel
theorem d6_23 : decode jdk_65_method_121_code 23 = .ok (.arraylength, 1) := by decide +kernel
theorem d6_24 : decode jdk_65_method_121_code 24 = .ok (.iload_n 1, 1) := by decide +kernel
theorem d6_25 : decode jdk_65_method_121_code 25 = .ok (.invokestatic 304, 3) := by decide +kernel
theorem d6_28 : decode jdk_65_method_121_code 28 = .ok (.invokestatic 150, 3) := by decide +kernel
theorem d6_31 : decode jdk_65_method_121_code 31 = .ok (.aload_n 2, 1) := by decide +kernel
theorem d6_32 : decode jdk_65_method_121_code 32 = .ok (.areturn, 1) := by decide +kernel
theorem pn_6 : plainName "java/util/Arrays" = true := by first | (simp [plainName, overriddenIn]; done) | decide +kernel
theorem pd_6_0 : parseMethodDescriptor "(II)I" = some ⟨[.int, .int], some .int⟩ := by decide +kernel
theorem ef_6 (m : MethodId) (a1 : Addr) : entryFrame m #[(.ref a1), (.int (Int32.ofNat N))] 3 = mkF m 0 #[.val (.ref a1), .val (.int (Int32.ofNat N)), .unset] [] := by first | (simp [entryFrame, mkF, argsToLocals, Value.category]; done) | rfl
def Q6 (Z : State) (a1 : Addr) (N : Nat) (n : Nat) (f : Nat → Int32) (h0 : Heap) (n0 : Nat) (v : Option Value) (h : Heap) (L : List Loc) : Prop := ∃ o, v = some (.ref o) ∧ Fr n0 L ∧ Keep h0 h [] ∧ h0.size ≤ o ∧ Ari Z h o .byte N (fun j => if j < n then f j else 0)
set_option maxRecDepth 65536 in
set_option maxHeartbeats 40000000 in
theorem rm6 (l : Launch) (Z : State) (a0 : Array Value) (hw : ∀ d ∈ tables_1, d.before a0 Z = true) (ws : List Jvm.Cond) (a1 : Addr) (N : Nat) (n : Nat) (f : Nat → Int32) (h0 : Heap) (n0 : Nat) (Z0 : n0 ≤ h0.size) (A_a1_0 : Ari Z h0 a1 .byte n f) (hne : N ≠ n) (hN : N ≤ 12) (hn : n ≤ 16) :
    MetFree l (⟨"java/util/Arrays", "copyOf", "([BI)[B"⟩ : MethodName) (head1 (Jvm.Cond.code (⟨"java/util/Arrays", "copyOf", "([BI)[B"⟩ : MethodName) jdk_65_method_121_code 3 (some (.array .byte)) :: ws) ({ frames := 1, cells := 1, slots := 12, locals := 40 } : Room)) (fun a U => a = #[(.ref a1), (.int (Int32.ofNat N))] ∧ Z.Warmed39 U.vm ∧ U.heap = h0) (fun _ _ _ _ _ => True) (fun _ U o U' => ∃ v L, o = .returned v ∧ Q6 Z a1 N n f h0 n0 v U'.heap L ∧ FrameEnd U o U' L ({ frames := 1, cells := 1, slots := 12, locals := 40 } : Room).cells ({ frames := 1, cells := 1, slots := 12, locals := 40 } : Room).slots) := by
  refine MetFree.of_bodySF (plainFor_of_name pn_6) hisR ?_
  intro p e s m args below meth c s₁ Bd hml0 hP hK
  obtain ⟨rfl, hZ, hh⟩ := hP
  have hx := Bd.exec
  have hby := Bd.bytes
  have hlk := Bd.notSynchronized
  have hml : c.maxLocals = 3 := hml0
  have hown : s.vm.findClass "java/util/Arrays" = some m.cls := findClass_of_methodNamed Bd.named
  have hnm := (name_of_methodNamed Bd.named Bd.method).1
  have X0 : Stand p l e ({ frames := 1, cells := 1, slots := 12, locals := 40 } : Room) s m #[(.ref a1), (.int (Int32.ofNat N))] below meth c s₁ [] 0 0 := Stand.of_body Bd
  have e0 : s₁.heap = h0 := by rw [← hh, Bd.state]; rfl
  have N0 := Fr.nil n0
  have K0 : Keep h0 h0 [] := Keep.refl h0 _
  show Goes p e below s ({ frames := 1, cells := 1, slots := 12, locals := 40 } : Room).cells ({ frames := 1, cells := 1, slots := 12, locals := 40 } : Room).slots (Q6 Z a1 N n f h0 n0) s₁ (entryFrame m #[(.ref a1), (.int (Int32.ofNat N))] 3)
  refine Goes.step (fun t k => castTop (ef_6 m a1) k) ?_
  refine Goes.step (fun _ k => XS.iloadN X0.here hx rfl (hb hby d6_0) rfl k) ?_
  show Goes p e below s _ _ _ s₁ (mkF m 1 #[.val (.ref a1), .val (.int (Int32.ofNat N)), .unset] [(.int (Int32.ofNat N))])
  refine Goes.step (fun _ k => XS.aloadN X0.here hx rfl (hb hby d6_1) rfl rfl k) ?_
  show Goes p e below s _ _ _ s₁ (mkF m 2 #[.val (.ref a1), .val (.int (Int32.ofNat N)), .unset] [(.ref a1), (.int (Int32.ofNat N))])
  refine Goes.step (fun _ k => rdL X0 hx hZ e0 A_a1_0 (g := (mkF m 2 #[.val (.ref a1), .val (.int (Int32.ofNat N)), .unset] [(.ref a1), (.int (Int32.ofNat N))])) rfl rfl (hb hby d6_2) _ k) ?_
  show Goes p e below s _ _ _ s₁ (mkF m 3 #[.val (.ref a1), .val (.int (Int32.ofNat N)), .unset] [(.int (Int32.ofNat n)), (.int (Int32.ofNat N))])
  refine Goes.step (fun _ k => XS.icmpYes X0.here hx rfl (pc0 := 3) (pc' := 14) rfl (hb hby d6_3) rfl (feq (own_ne hne (by omega) (by omega))).2 (by decide) (by decide) k) ?_
  show Goes p e below s _ _ _ s₁ (mkF m 14 #[.val (.ref a1), .val (.int (Int32.ofNat N)), .unset] [])
  refine Goes.step (fun _ k => XS.iloadN X0.here hx rfl (hb hby d6_14) rfl k) ?_
  show Goes p e below s _ _ _ s₁ (mkF m 15 #[.val (.ref a1), .val (.int (Int32.ofNat N)), .unset] [(.int (Int32.ofNat N))])
  obtain ⟨T1, h1, X1, e1, E1, A1, st1⟩ := newI X0 hx hZ (hw _ (List.mem_of_getElem? (i := 9) rfl)) e0 (g := (mkF m 15 #[.val (.ref a1), .val (.int (Int32.ofNat N)), .unset] [(.int (Int32.ofNat N))])) rfl (hb hby d6_15) rfl (N := N) rfl (cap := 12) hN (by decide) (by decide) (by decide) rfl (by decide)
  obtain ⟨b1, g_1⟩ : ∃ z, z = h0.size := ⟨_, rfl⟩
  rw [← g_1] at A1 st1
  refine Goes.step st1 ?_
  have ne_a1_b1 : a1 ≠ b1 := Nat.ne_of_lt (by rw [g_1]; exact A_a1_0.lt)
  have ge_b1 : n0 ≤ b1 := by rw [g_1]; exact Z0
  have sz_b1 : h0.size ≤ b1 := by rw [g_1]; exact K0.1
  have A_a1_1 := A_a1_0.ext E1
  have z_1 : n0 ≤ h1.size := Nat.le_trans Z0 E1.1
  have K_1 : Keep h0 h1 [] := K0.ext E1
  have A_b1_1 : Ari Z h1 b1 .byte (N) (fun _ => 0) := A1
  show Goes p e below s _ _ _ T1 (mkF m 17 #[.val (.ref a1), .val (.int (Int32.ofNat N)), .unset] [(.ref b1)])
  refine Goes.step (fun _ k => XS.astoreN X1.here hx rfl (hb hby d6_17) rfl rfl (l' := #[.val (.ref a1), .val (.int (Int32.ofNat N)), .val (.ref b1)]) rfl k) ?_
  show Goes p e below s _ _ _ T1 (mkF m 18 #[.val (.ref a1), .val (.int (Int32.ofNat N)), .val (.ref b1)] [])
  refine Goes.step (fun _ k => XS.aloadN X1.here hx rfl (hb hby d6_18) rfl rfl k) ?_
  show Goes p e below s _ _ _ T1 (mkF m 19 #[.val (.ref a1), .val (.int (Int32.ofNat N)), .val (.ref b1)] [(.ref a1)])
  refine Goes.step (fun _ k => XS.iconst X1.here hx rfl (hb hby d6_19) k) ?_
  show Goes p e below s _ _ _ T1 (mkF m 20 #[.val (.ref a1), .val (.int (Int32.ofNat N)), .val (.ref b1)] [(.int (0 : Int32)), (.ref a1)])
  refine Goes.step (fun _ k => XS.aloadN X1.here hx rfl (hb hby d6_20) rfl rfl k) ?_
  show Goes p e below s _ _ _ T1 (mkF m 21 #[.val (.ref a1), .val (.int (Int32.ofNat N)), .val (.ref b1)] [(.ref b1), (.int (0 : Int32)), (.ref a1)])
  refine Goes.step (fun _ k => XS.iconst X1.here hx rfl (hb hby d6_21) k) ?_
  show Goes p e below s _ _ _ T1 (mkF m 22 #[.val (.ref a1), .val (.int (Int32.ofNat N)), .val (.ref b1)] [(.int (0 : Int32)), (.ref b1), (.int (0 : Int32)), (.ref a1)])
  refine Goes.step (fun _ k => XS.aloadN X1.here hx rfl (hb hby d6_22) rfl rfl k) ?_
  show Goes p e below s _ _ _ T1 (mkF m 23 #[.val (.ref a1), .val (.int (Int32.ofNat N)), .val (.ref b1)] [(.ref a1), (.int (0 : Int32)), (.ref b1), (.int (0 : Int32)), (.ref a1)])
  refine Goes.step (fun _ k => rdL X1 hx hZ e1 A_a1_1 (g := (mkF m 23 #[.val (.ref a1), .val (.int (Int32.ofNat N)), .val (.ref b1)] [(.ref a1), (.int (0 : Int32)), (.ref b1), (.int (0 : Int32)), (.ref a1)])) rfl rfl (hb hby d6_23) _ k) ?_
  show Goes p e below s _ _ _ T1 (mkF m 24 #[.val (.ref a1), .val (.int (Int32.ofNat N)), .val (.ref b1)] [(.int (Int32.ofNat n)), (.int (0 : Int32)), (.ref b1), (.int (0 : Int32)), (.ref a1)])
  refine Goes.step (fun _ k => XS.iloadN X1.here hx rfl (hb hby d6_24) rfl k) ?_
  show Goes p e below s _ _ _ T1 (mkF m 25 #[.val (.ref a1), .val (.int (Int32.ofNat N)), .val (.ref b1)] [(.int (Int32.ofNat N)), (.int (Int32.ofNat n)), (.int (0 : Int32)), (.ref b1), (.int (0 : Int32)), (.ref a1)])
  obtain ⟨T2, X2, e2, st2⟩ := callPure X1 hx hZ (y := (⟨"java/lang/Math", "min", "(II)I"⟩ : MethodName)) hown (hw _ (List.mem_of_getElem? (i := 31) rfl)) (hw _ (List.mem_of_getElem? (i := 32) rfl)) (hw _ (List.mem_of_getElem? (i := 25) rfl)) (hw _ (List.mem_of_getElem? (i := 33) rfl)) (by decide) (W := 4) (argsL := [(.int (Int32.ofNat n)), (.int (Int32.ofNat N))]) (rest := [(.int (0 : Int32)), (.ref b1), (.int (0 : Int32)), (.ref a1)]) (r := (.int (f7 (Int32.ofNat n) (Int32.ofNat N)))) (fun _ _ _ q => q) (rm7 l Z a0 hw [] (Int32.ofNat n) (Int32.ofNat N) h1 ) (by decide) (by decide) (by decide) (by decide) e1 (g := (mkF m 25 #[.val (.ref a1), .val (.int (Int32.ofNat N)), .val (.ref b1)] [(.int (Int32.ofNat N)), (.int (Int32.ofNat n)), (.int (0 : Int32)), (.ref b1), (.int (0 : Int32)), (.ref a1)])) rfl (by rw [hml]; rfl) (lenOf pd_6_0 rfl) rfl (by show 2 * 0 + _ ≤ _; exact Nat.le_of_eq rfl) (hb hby d6_25)
  refine Goes.step st2 ?_
  show Goes p e below s _ _ _ T2 (mkF m 28 #[.val (.ref a1), .val (.int (Int32.ofNat N)), .val (.ref b1)] [(.int (f7 (Int32.ofNat n) (Int32.ofNat N))), (.int (0 : Int32)), (.ref b1), (.int (0 : Int32)), (.ref a1)])
  rw [own_min (by omega) (by omega)]
  obtain ⟨T3, h3, L3, X3, e3, N_3, KQ3, A3, st3⟩ := copyI X2 hx hZ hown (hw _ (List.mem_of_getElem? (i := 34) rfl)) (hw _ (List.mem_of_getElem? (i := 37) rfl)) (hw _ (List.mem_of_getElem? (i := 35) rfl)) (hw _ (List.mem_of_getElem? (i := 36) rfl)) e2 (sp := 0) (dp := 0) (k := min n N) A_a1_1 A_b1_1 rfl rfl rfl rfl (by omega) (by omega) N0 ge_b1 (g := (mkF m 28 #[.val (.ref a1), .val (.int (Int32.ofNat N)), .val (.ref b1)] [(.int (Int32.ofNat (min n N))), (.int (0 : Int32)), (.ref b1), (.int (0 : Int32)), (.ref a1)])) rfl (by rw [hml]; rfl) (rest := []) rfl (hb hby d6_28) (by decide) (W := 0) (by show 2 * 0 + _ ≤ _; exact Nat.le_of_eq rfl) (by decide)
  refine Goes.step st3 ?_
  have A_a1_3 := A_a1_1.keep KQ3 (ninS ne_a1_b1 nin0)
  have z_3 : n0 ≤ h3.size := Nat.le_trans z_1 KQ3.1
  have K_3 : Keep h0 h3 [] := Keep.trans K_1 KQ3 (allS (Or.inr sz_b1) all0)
  show Goes p e below s _ _ _ T3 (mkF m 31 #[.val (.ref a1), .val (.int (Int32.ofNat N)), .val (.ref b1)] [])
  refine Goes.step (fun _ k => XS.aloadN X3.here hx rfl (hb hby d6_31) rfl rfl k) ?_
  show Goes p e below s _ _ _ T3 (mkF m 32 #[.val (.ref a1), .val (.int (Int32.ofNat N)), .val (.ref b1)] [(.ref b1)])
  exact Goes.outR X3 hx hlk Bd.returns rfl rfl (hb hby d6_32) (by rw [e3]; exact ⟨_, rfl, N_3, K_3, sz_b1, A3.cast (own_cut f n N)⟩) (by decide) (by decide)
theorem d4_0 : decode prog_13_method_11_code 0 = .ok (.aload_n 0, 1) := by decide +kernel
theorem d4_1 : decode prog_13_method_11_code 1 = .ok (.getfield 19, 3) := by decide +kernel
theorem d4_4 : decode prog_13_method_11_code 4 = .ok (.iload_n 1, 1) := by decide +kernel
theorem d4_5 : decode prog_13_method_11_code 5 = .ok (.iadd, 1) := by decide +kernel
theorem d4_6 : decode prog_13_method_11_code 6 = .ok (.aload_n 0, 1) := by decide +kernel
theorem d4_7 : decode prog_13_method_11_code 7 = .ok (.getfield 9, 3) := by decide +kernel
theorem d4_10 : decode prog_13_method_11_code 10 = .ok (.arraylength, 1) := by decide +kernel
theorem d4_11 : decode prog_13_method_11_code 11 = .ok (.if_icmp .le 30, 3) := by decide +kernel
theorem d4_14 : decode prog_13_method_11_code 14 = .ok (.aload_n 0, 1) := by decide +kernel
theorem d4_15 : decode prog_13_method_11_code 15 = .ok (.aload_n 0, 1) := by decide +kernel
theorem d4_16 : decode prog_13_method_11_code 16 = .ok (.getfield 9, 3) := by decide +kernel
theorem d4_19 : decode prog_13_method_11_code 19 = .ok (.aload_n 0, 1) := by decide +kernel
theorem d4_20 : decode prog_13_method_11_code 20 = .ok (.getfield 9, 3) := by decide +kernel
theorem d4_23 : decode prog_13_method_11_code 23 = .ok (.arraylength, 1) := by decide +kernel
theorem d4_24 : decode prog_13_method_11_code 24 = .ok (.iconst 2, 1) := by decide +kernel
theorem d4_25 : decode prog_13_method_11_code 25 = .ok (.imul, 1) := by decide +kernel
theorem d4_26 : decode prog_13_method_11_code 26 = .ok (.aload_n 0, 1) := by decide +kernel
theorem d4_27 : decode prog_13_method_11_code 27 = .ok (.getfield 19, 3) := by decide +kernel
theorem d4_30 : decode prog_13_method_11_code 30 = .ok (.iload_n 1, 1) := by decide +kernel
theorem d4_31 : decode prog_13_method_11_code 31 = .ok (.iadd, 1) := by decide +kernel
theorem d4_32 : decode prog_13_method_11_code 32 = .ok (.invokestatic 62, 3) := by decide +kernel
theorem d4_35 : decode prog_13_method_11_code 35 = .ok (.invokestatic 56, 3) := by decide +kernel
theorem d4_38 : decode prog_13_method_11_code 38 = .ok (.putfield 9, 3) := by decide +kernel
theorem d4_41 : decode prog_13_method_11_code 41 = .ok (.return_, 1) := by decide +kernel
theorem pn_4 : plainName "com/example/proxysmith/proxysmith/ClassFileWriter$Bytes" = true := by first | (simp [plainName, overriddenIn]; done) | decide +kernel
theorem pd_4_0 : parseMethodDescriptor "(II)I" = some ⟨[.int, .int], some .int⟩ := by decide +kernel
theorem pd_4_1 : parseMethodDescriptor "([BI)[B" = some ⟨[(.array .byte), .int], some (.array .byte)⟩ := by decide +kernel
theorem ef_4 (m : MethodId) (a1 : Addr) : entryFrame m #[(.ref a1), (.int (Int32.ofNat mo))] 2 = mkF m 0 #[.val (.ref a1), .val (.int (Int32.ofNat mo))] [] := by first | (simp [entryFrame, mkF, argsToLocals, Value.category]; done) | rfl
def Q4 (Z : State) (a1 : Addr) (mo : Nat) (b : Addr) (n : Nat) (sz : Nat) (f : Nat → Int32) (h0 : Heap) (n0 : Nat) (v : Option Value) (h : Heap) (L : List Loc) : Prop := ∃ b' n' f', v = none ∧ Fr n0 L ∧ Keep h0 h [a1] ∧ Exa Z h a1 "com/example/proxysmith/proxysmith/ClassFileWriter$Bytes" ∧ Fld Z h a1 "com/example/proxysmith/proxysmith/ClassFileWriter$Bytes" "bytes" "[B" (.ref b') ∧ Fld Z h a1 "com/example/proxysmith/proxysmith/ClassFileWriter$Bytes" "size" "I" (.int (Int32.ofNat (sz))) ∧ Ari Z h b' .byte n' f' ∧ a1 ≠ b' ∧ n0 ≤ b' ∧ (b' = b ∨ h0.size ≤ b') ∧ sz ≤ n' ∧ n' ≤ 16 ∧ sz + mo ≤ n' ∧ ∀ j, j < sz → f' j = f j
set_option maxRecDepth 65536 in
set_option maxHeartbeats 40000000 in
theorem rm4 (l : Launch) (Z : State) (a0 : Array Value) (hw : ∀ d ∈ tables_1, d.before a0 Z = true) (ws : List Jvm.Cond) (a1 : Addr) (mo : Nat) (b : Addr) (n : Nat) (sz : Nat) (f : Nat → Int32) (h0 : Heap) (n0 : Nat) (Z0 : n0 ≤ h0.size) (E_a1_0 : Exa Z h0 a1 "com/example/proxysmith/proxysmith/ClassFileWriter$Bytes") (F_a1_bytes_0 : Fld Z h0 a1 "com/example/proxysmith/proxysmith/ClassFileWriter$Bytes" "bytes" "[B" (.ref b)) (F_a1_size_0 : Fld Z h0 a1 "com/example/proxysmith/proxysmith/ClassFileWriter$Bytes" "size" "I" (.int (Int32.ofNat sz))) (A_b_0 : Ari Z h0 b .byte n f) (ne_a1_b : a1 ≠ b) (ge_a1 : n0 ≤ a1) (ge_b : n0 ≤ b) (hsn : sz ≤ n) (hmx : n ≤ 16) (hmo : sz + mo ≤ 7) :
    MetFree l (⟨"com/example/proxysmith/proxysmith/ClassFileWriter$Bytes", "room", "(I)V"⟩ : MethodName) (head1 (Jvm.Cond.code (⟨"com/example/proxysmith/proxysmith/ClassFileWriter$Bytes", "room", "(I)V"⟩ : MethodName) prog_13_method_11_code 2 none :: ws) ({ frames := 2, cells := 1, slots := 12, locals := 55 } : Room)) (fun a U => a = #[(.ref a1), (.int (Int32.ofNat mo))] ∧ Z.Warmed39 U.vm ∧ U.heap = h0) (fun _ _ _ _ _ => True) (fun _ U o U' => ∃ v L, o = .returned v ∧ Q4 Z a1 mo b n sz f h0 n0 v U'.heap L ∧ FrameEnd U o U' L ({ frames := 2, cells := 1, slots := 12, locals := 55 } : Room).cells ({ frames := 2, cells := 1, slots := 12, locals := 55 } : Room).slots) := by
  refine MetFree.of_bodySF (plainFor_of_name pn_4) hisR ?_
  intro p e s m args below meth c s₁ Bd hml0 hP hK
  obtain ⟨rfl, hZ, hh⟩ := hP
  have hx := Bd.exec
  have hby := Bd.bytes
  have hlk := Bd.notSynchronized
  have hml : c.maxLocals = 2 := hml0
  have hown : s.vm.findClass "com/example/proxysmith/proxysmith/ClassFileWriter$Bytes" = some m.cls := findClass_of_methodNamed Bd.named
  have hnm := (name_of_methodNamed Bd.named Bd.method).1
  have X0 : Stand p l e ({ frames := 2, cells := 1, slots := 12, locals := 55 } : Room) s m #[(.ref a1), (.int (Int32.ofNat mo))] below meth c s₁ [] 0 0 := Stand.of_body Bd
  have e0 : s₁.heap = h0 := by rw [← hh, Bd.state]; rfl
  have N0 := Fr.nil n0
  have K0 : Keep h0 h0 [a1] := Keep.refl h0 _
  show Goes p e below s ({ frames := 2, cells := 1, slots := 12, locals := 55 } : Room).cells ({ frames := 2, cells := 1, slots := 12, locals := 55 } : Room).slots (Q4 Z a1 mo b n sz f h0 n0) s₁ (entryFrame m #[(.ref a1), (.int (Int32.ofNat mo))] 2)
  refine Goes.step (fun t k => castTop (ef_4 m a1) k) ?_
  refine Goes.step (fun _ k => XS.aloadN X0.here hx rfl (hb hby d4_0) rfl rfl k) ?_
  show Goes p e below s _ _ _ s₁ (mkF m 1 #[.val (.ref a1), .val (.int (Int32.ofNat mo))] [(.ref a1)])
  obtain ⟨T1, X1, e1, st1⟩ := getF X0 hx hZ hown (host := "") (Or.inl (hw _ (List.mem_of_getElem? (i := 21) rfl))) Via.refl e0 F_a1_size_0 (g := (mkF m 1 #[.val (.ref a1), .val (.int (Int32.ofNat mo))] [(.ref a1)])) rfl rfl (hb hby d4_1)
  refine Goes.step st1 ?_
  show Goes p e below s _ _ _ T1 (mkF m 4 #[.val (.ref a1), .val (.int (Int32.ofNat mo))] [(.int (Int32.ofNat sz))])
  refine Goes.step (fun _ k => XS.iloadN X1.here hx rfl (hb hby d4_4) rfl k) ?_
  show Goes p e below s _ _ _ T1 (mkF m 5 #[.val (.ref a1), .val (.int (Int32.ofNat mo))] [(.int (Int32.ofNat mo)), (.int (Int32.ofNat sz))])
  refine Goes.step (fun _ k => XS.iadd X1.here hx rfl (hb hby d4_5) rfl k) ?_
  show Goes p e below s _ _ _ T1 (mkF m 6 #[.val (.ref a1), .val (.int (Int32.ofNat mo))] [(.int ((Int32.ofNat sz) + (Int32.ofNat mo)))])
  rw [← Int32.ofNat_add sz mo]
  refine Goes.step (fun _ k => XS.aloadN X1.here hx rfl (hb hby d4_6) rfl rfl k) ?_
  show Goes p e below s _ _ _ T1 (mkF m 7 #[.val (.ref a1), .val (.int (Int32.ofNat mo))] [(.ref a1), (.int (Int32.ofNat (sz + mo)))])
  obtain ⟨T2, X2, e2, st2⟩ := getF X1 hx hZ hown (host := "") (Or.inl (hw _ (List.mem_of_getElem? (i := 10) rfl))) Via.refl e1 F_a1_bytes_0 (g := (mkF m 7 #[.val (.ref a1), .val (.int (Int32.ofNat mo))] [(.ref a1), (.int (Int32.ofNat (sz + mo)))])) rfl rfl (hb hby d4_7)
  refine Goes.step st2 ?_
  show Goes p e below s _ _ _ T2 (mkF m 10 #[.val (.ref a1), .val (.int (Int32.ofNat mo))] [(.ref b), (.int (Int32.ofNat (sz + mo)))])
  refine Goes.step (fun _ k => rdL X2 hx hZ e2 A_b_0 (g := (mkF m 10 #[.val (.ref a1), .val (.int (Int32.ofNat mo))] [(.ref b), (.int (Int32.ofNat (sz + mo)))])) rfl rfl (hb hby d4_10) _ k) ?_
  show Goes p e below s _ _ _ T2 (mkF m 11 #[.val (.ref a1), .val (.int (Int32.ofNat mo))] [(.int (Int32.ofNat n)), (.int (Int32.ofNat (sz + mo)))])
  by_cases hc11 : (Int32.ofNat n) < (Int32.ofNat (sz + mo))
  · refine Goes.step (fun _ k => XS.icmpNo X2.here hx rfl (hb hby d4_11) rfl (tlt hc11).2.2.2 k) ?_
    show Goes p e below s _ _ _ T2 (mkF m 14 #[.val (.ref a1), .val (.int (Int32.ofNat mo))] [])
    refine Goes.step (fun _ k => XS.aloadN X2.here hx rfl (hb hby d4_14) rfl rfl k) ?_
    show Goes p e below s _ _ _ T2 (mkF m 15 #[.val (.ref a1), .val (.int (Int32.ofNat mo))] [(.ref a1)])
    refine Goes.step (fun _ k => XS.aloadN X2.here hx rfl (hb hby d4_15) rfl rfl k) ?_
    show Goes p e below s _ _ _ T2 (mkF m 16 #[.val (.ref a1), .val (.int (Int32.ofNat mo))] [(.ref a1), (.ref a1)])
    obtain ⟨T3, X3, e3, st3⟩ := getF X2 hx hZ hown (host := "") (Or.inl (hw _ (List.mem_of_getElem? (i := 10) rfl))) Via.refl e2 F_a1_bytes_0 (g := (mkF m 16 #[.val (.ref a1), .val (.int (Int32.ofNat mo))] [(.ref a1), (.ref a1)])) rfl rfl (hb hby d4_16)
    refine Goes.step st3 ?_
    show Goes p e below s _ _ _ T3 (mkF m 19 #[.val (.ref a1), .val (.int (Int32.ofNat mo))] [(.ref b), (.ref a1)])
    refine Goes.step (fun _ k => XS.aloadN X3.here hx rfl (hb hby d4_19) rfl rfl k) ?_
    show Goes p e below s _ _ _ T3 (mkF m 20 #[.val (.ref a1), .val (.int (Int32.ofNat mo))] [(.ref a1), (.ref b), (.ref a1)])
    obtain ⟨T4, X4, e4, st4⟩ := getF X3 hx hZ hown (host := "") (Or.inl (hw _ (List.mem_of_getElem? (i := 10) rfl))) Via.refl e3 F_a1_bytes_0 (g := (mkF m 20 #[.val (.ref a1), .val (.int (Int32.ofNat mo))] [(.ref a1), (.ref b), (.ref a1)])) rfl rfl (hb hby d4_20)
    refine Goes.step st4 ?_
    show Goes p e below s _ _ _ T4 (mkF m 23 #[.val (.ref a1), .val (.int (Int32.ofNat mo))] [(.ref b), (.ref b), (.ref a1)])
    refine Goes.step (fun _ k => rdL X4 hx hZ e4 A_b_0 (g := (mkF m 23 #[.val (.ref a1), .val (.int (Int32.ofNat mo))] [(.ref b), (.ref b), (.ref a1)])) rfl rfl (hb hby d4_23) _ k) ?_
    show Goes p e below s _ _ _ T4 (mkF m 24 #[.val (.ref a1), .val (.int (Int32.ofNat mo))] [(.int (Int32.ofNat n)), (.ref b), (.ref a1)])
    refine Goes.step (fun _ k => XS.iconst X4.here hx rfl (hb hby d4_24) k) ?_
    show Goes p e below s _ _ _ T4 (mkF m 25 #[.val (.ref a1), .val (.int (Int32.ofNat mo))] [(.int (2 : Int32)), (.int (Int32.ofNat n)), (.ref b), (.ref a1)])
    refine Goes.step (fun _ k => XS.imul X4.here hx rfl (hb hby d4_25) rfl k) ?_
    show Goes p e below s _ _ _ T4 (mkF m 26 #[.val (.ref a1), .val (.int (Int32.ofNat mo))] [(.int ((Int32.ofNat n) * (2 : Int32))), (.ref b), (.ref a1)])
    rw [show (Int32.ofNat n) * (2 : Int32) = Int32.ofNat (n * 2) from (Int32.ofNat_mul n 2).symm]
    refine Goes.step (fun _ k => XS.aloadN X4.here hx rfl (hb hby d4_26) rfl rfl k) ?_
    show Goes p e below s _ _ _ T4 (mkF m 27 #[.val (.ref a1), .val (.int (Int32.ofNat mo))] [(.ref a1), (.int (Int32.ofNat (n * 2))), (.ref b), (.ref a1)])
    obtain ⟨T5, X5, e5, st5⟩ := getF X4 hx hZ hown (host := "") (Or.inl (hw _ (List.mem_of_getElem? (i := 21) rfl))) Via.refl e4 F_a1_size_0 (g := (mkF m 27 #[.val (.ref a1), .val (.int (Int32.ofNat mo))] [(.ref a1), (.int (Int32.ofNat (n * 2))), (.ref b), (.ref a1)])) rfl rfl (hb hby d4_27)
    refine Goes.step st5 ?_
    show Goes p e below s _ _ _ T5 (mkF m 30 #[.val (.ref a1), .val (.int (Int32.ofNat mo))] [(.int (Int32.ofNat sz)), (.int (Int32.ofNat (n * 2))), (.ref b), (.ref a1)])
    refine Goes.step (fun _ k => XS.iloadN X5.here hx rfl (hb hby d4_30) rfl k) ?_
    show Goes p e below s _ _ _ T5 (mkF m 31 #[.val (.ref a1), .val (.int (Int32.ofNat mo))] [(.int (Int32.ofNat mo)), (.int (Int32.ofNat sz)), (.int (Int32.ofNat (n * 2))), (.ref b), (.ref a1)])
    refine Goes.step (fun _ k => XS.iadd X5.here hx rfl (hb hby d4_31) rfl k) ?_
    show Goes p e below s _ _ _ T5 (mkF m 32 #[.val (.ref a1), .val (.int (Int32.ofNat mo))] [(.int ((Int32.ofNat sz) + (Int32.ofNat mo))), (.int (Int32.ofNat (n * 2))), (.ref b), (.ref a1)])
    rw [← Int32.ofNat_add sz mo]
    obtain ⟨T6, X6, e6, st6⟩ := callPure X5 hx hZ (y := (⟨"java/lang/Math", "max", "(II)I"⟩ : MethodName)) hown (hw _ (List.mem_of_getElem? (i := 23) rfl)) (hw _ (List.mem_of_getElem? (i := 24) rfl)) (hw _ (List.mem_of_getElem? (i := 25) rfl)) (hw _ (List.mem_of_getElem? (i := 26) rfl)) (by decide) (W := 2) (argsL := [(.int (Int32.ofNat (n * 2))), (.int (Int32.ofNat (sz + mo)))]) (rest := [(.ref b), (.ref a1)]) (r := (.int (f5 (Int32.ofNat (n * 2)) (Int32.ofNat (sz + mo))))) (fun _ _ _ q => q) (rm5 l Z a0 hw [] (Int32.ofNat (n * 2)) (Int32.ofNat (sz + mo)) h0 ) (by decide) (by decide) (by decide) (by decide) e5 (g := (mkF m 32 #[.val (.ref a1), .val (.int (Int32.ofNat mo))] [(.int (Int32.ofNat (sz + mo))), (.int (Int32.ofNat (n * 2))), (.ref b), (.ref a1)])) rfl (by rw [hml]; rfl) (lenOf pd_4_0 rfl) rfl (by show 2 * 0 + _ ≤ _; exact Nat.le_of_eq rfl) (hb hby d4_32)
    refine Goes.step st6 ?_
    show Goes p e below s _ _ _ T6 (mkF m 35 #[.val (.ref a1), .val (.int (Int32.ofNat mo))] [(.int (f5 (Int32.ofNat (n * 2)) (Int32.ofNat (sz + mo)))), (.ref b), (.ref a1)])
    rw [own_max (a := n * 2) (b := sz + mo) (by omega) (by omega)]
    have hgt := own_gt hc11 (by omega) (by omega)
    obtain ⟨v7, T7, h7, L7, X7, e7, Q7, st7⟩ := callX X6 hx hZ (y := (⟨"java/util/Arrays", "copyOf", "([BI)[B"⟩ : MethodName)) hown (hw _ (List.mem_of_getElem? (i := 27) rfl)) (hw _ (List.mem_of_getElem? (i := 28) rfl)) (hw _ (List.mem_of_getElem? (i := 29) rfl)) (hw _ (List.mem_of_getElem? (i := 30) rfl)) (by decide) (W := 1) (argsL := [(.ref b), (.int (Int32.ofNat (max (n * 2) (sz + mo))))]) (rest := [(.ref a1)]) (rm6 l Z a0 hw [] b (max (n * 2) (sz + mo)) n f h0 n0 Z0 A_b_0 (by omega) (by omega) hmx) (by decide) (by decide) (by decide) (by decide) e6 (g := (mkF m 35 #[.val (.ref a1), .val (.int (Int32.ofNat mo))] [(.int (Int32.ofNat (max (n * 2) (sz + mo)))), (.ref b), (.ref a1)])) rfl (by rw [hml]; rfl) (lenOf pd_4_1 rfl) rfl (by show 2 * 0 + _ ≤ _; exact Nat.le_of_eq rfl) (hb hby d4_35)
    obtain ⟨o7, rfl, NQ7, KQ7, so7, Ao7⟩ := Q7
    refine Goes.step st7 ?_
    have E_a1_7 := E_a1_0.keep KQ7
    have F_a1_bytes_7 := F_a1_bytes_0.keep KQ7 nin0
    have F_a1_size_7 := F_a1_size_0.keep KQ7 nin0
    have A_b_7 := A_b_0.keep KQ7 nin0
    have z_7 : n0 ≤ h7.size := Nat.le_trans Z0 KQ7.1
    have K_7 : Keep h0 h7 [a1] := Keep.trans K0 KQ7 all0
    have N_7 := Fr.app N0 NQ7
    have ne_b_o7 : b ≠ o7 := Nat.ne_of_lt (Nat.lt_of_lt_of_le A_b_0.lt so7)
    have ne_a1_o7 : a1 ≠ o7 := Nat.ne_of_lt (Nat.lt_of_lt_of_le E_a1_0.lt so7)
    have ge_o7 : n0 ≤ o7 := Nat.le_trans Z0 so7
    show Goes p e below s _ _ _ T7 (mkF m 38 #[.val (.ref a1), .val (.int (Int32.ofNat mo))] [(.ref o7), (.ref a1)])
    obtain ⟨T8, h8, X8, e8, W8, st8⟩ := putF X7 hx hZ hown (host := "") (Or.inl (hw _ (List.mem_of_getElem? (i := 10) rfl))) Via.refl e7 F_a1_bytes_7 E_a1_7 (Or.inl (hw _ (List.mem_of_getElem? (i := 11) rfl))) (hw _ (List.mem_of_getElem? (i := 1) rfl)) (ty := (.array .byte)) (by decide) rfl rfl (g := (mkF m 38 #[.val (.ref a1), .val (.int (Int32.ofNat mo))] [(.ref o7), (.ref a1)])) rfl rfl (hb hby d4_38)
    refine Goes.step st8 ?_
    have E_a1_8 := E_a1_7.wr W8
    have F_a1_size_8 := F_a1_size_7.other W8 (Or.inr (slot_ne (Or.inl (hw _ (List.mem_of_getElem? (i := 22) rfl))) (Or.inl (hw _ (List.mem_of_getElem? (i := 11) rfl))) (by decide) (t := .int) (t' := (.array .byte)) (by decide) (by decide)))
    have A_b_8 := A_b_7.other W8 (Ne.symm ne_a1_b)
    have Ao7_8 := Ao7.other W8 (Ne.symm ne_a1_o7)
    have z_8 : n0 ≤ h8.size := by rw [W8.size]; exact z_7
    have K_8 : Keep h0 h8 [a1] := K_7.wr W8 (Or.inl (List.mem_of_getElem? (i := 0) rfl))
    have N_8 := Fr.snoc X8 N_7 ge_a1
    have F_a1_bytes_8 : Fld Z h8 a1 "com/example/proxysmith/proxysmith/ClassFileWriter$Bytes" "bytes" "[B" (.ref o7) := F_a1_bytes_7.same W8
    show Goes p e below s _ _ _ T8 (mkF m 41 #[.val (.ref a1), .val (.int (Int32.ofNat mo))] [])
    exact Goes.outV X8 hx hlk Bd.returns (hb hby d4_41) (by rw [e8]; exact ⟨o7, max (n * 2) (sz + mo), _, rfl, N_8, K_8, E_a1_8, F_a1_bytes_8, F_a1_size_8, Ao7_8, ne_a1_o7, ge_o7, Or.inr so7, by omega, by omega, by omega, own_keepf f hsn⟩) (by decide) (by decide)
  · refine Goes.step (fun _ k => XS.icmpYes X2.here hx rfl (pc0 := 11) (pc' := 41) rfl (hb hby d4_11) rfl (flt hc11).2.2.2 (by decide) (by decide) k) ?_
    show Goes p e below s _ _ _ T2 (mkF m 41 #[.val (.ref a1), .val (.int (Int32.ofNat mo))] [])
    exact Goes.outV X2 hx hlk Bd.returns (hb hby d4_41) (by rw [e2]; exact ⟨b, n, f, rfl, N0, K0, E_a1_0, F_a1_bytes_0, F_a1_size_0, A_b_0, ne_a1_b, ge_b, Or.inl rfl, hsn, hmx, own_le hc11 (by omega) (by omega), fun _ _ => rfl⟩) (by decide) (by decide)
theorem d3_0 : decode prog_13_method_2_code 0 = .ok (.aload_n 0, 1) := by decide +kernel
theorem d3_1 : decode prog_13_method_2_code 1 = .ok (.iconst 1, 1) := by decide +kernel
theorem d3_2 : decode prog_13_method_2_code 2 = .ok (.invokevirtual 15, 3) := by decide +kernel
theorem d3_5 : decode prog_13_method_2_code 5 = .ok (.aload_n 0, 1) := by decide +kernel
theorem d3_6 : decode prog_13_method_2_code 6 = .ok (.getfield 9, 3) := by decide +kernel
theorem d3_9 : decode prog_13_method_2_code 9 = .ok (.aload_n 0, 1) := by decide +kernel
theorem d3_10 : decode prog_13_method_2_code 10 = .ok (.dup, 1) := by decide +kernel
theorem d3_11 : decode prog_13_method_2_code 11 = .ok (.getfield 19, 3) := by decide +kernel
theorem d3_14 : decode prog_13_method_2_code 14 = .ok (.dup_x1, 1) := by decide +kernel
theorem d3_15 : decode prog_13_method_2_code 15 = .ok (.iconst 1, 1) := by decide +kernel
theorem d3_16 : decode prog_13_method_2_code 16 = .ok (.iadd, 1) := by decide +kernel
theorem d3_17 : decode prog_13_method_2_code 17 = .ok (.putfield 19, 3) := by decide +kernel
theorem d3_20 : decode prog_13_method_2_code 20 = .ok (.iload_n 1, 1) := by decide +kernel
theorem d3_21 : decode prog_13_method_2_code 21 = .ok (.i2b, 1) := by decide +kernel
theorem d3_22 : decode prog_13_method_2_code 22 = .ok (.bastore, 1) := by decide +kernel
theorem d3_23 : decode prog_13_method_2_code 23 = .ok (.return_, 1) := by decide +kernel
theorem pn_3 : plainName "com/example/proxysmith/proxysmith/ClassFileWriter$Bytes" = true := by first | (simp [plainName, overriddenIn]; done) | decide +kernel
theorem pd_3_0 : parseMethodDescriptor "(I)V" = some ⟨[.int], none⟩ := by decide +kernel
theorem ef_3 (m : MethodId) (a1 : Addr) (p2 : Int32) : entryFrame m #[(.ref a1), (.int p2)] 2 = mkF m 0 #[.val (.ref a1), .val (.int p2)] [] := by first | (simp [entryFrame, mkF, argsToLocals, Value.category]; done) | rfl
def Q3 (Z : State) (a1 : Addr) (p2 : Int32) (b : Addr) (n : Nat) (sz : Nat) (f : Nat → Int32) (h0 : Heap) (n0 : Nat) (v : Option Value) (h : Heap) (L : List Loc) : Prop := ∃ b' n' f', v = none ∧ Fr n0 L ∧ Keep h0 h [a1, b] ∧ Exa Z h a1 "com/example/proxysmith/proxysmith/ClassFileWriter$Bytes" ∧ Fld Z h a1 "com/example/proxysmith/proxysmith/ClassFileWriter$Bytes" "bytes" "[B" (.ref b') ∧ Fld Z h a1 "com/example/proxysmith/proxysmith/ClassFileWriter$Bytes" "size" "I" (.int (Int32.ofNat (sz + 1))) ∧ Ari Z h b' .byte n' f' ∧ a1 ≠ b' ∧ n0 ≤ b' ∧ (b' = b ∨ h0.size ≤ b') ∧ sz + 1 ≤ n' ∧ n' ≤ 16 ∧ (∀ j, j < sz → f' j = f j) ∧ f' sz = p2.toInt8.toInt32
set_option maxRecDepth 65536 in
set_option maxHeartbeats 40000000 in
theorem rm3 (l : Launch) (Z : State) (a0 : Array Value) (hw : ∀ d ∈ tables_1, d.before a0 Z = true) (ws : List Jvm.Cond) (a1 : Addr) (p2 : Int32) (b : Addr) (n : Nat) (sz : Nat) (f : Nat → Int32) (h0 : Heap) (n0 : Nat) (Z0 : n0 ≤ h0.size) (E_a1_0 : Exa Z h0 a1 "com/example/proxysmith/proxysmith/ClassFileWriter$Bytes") (F_a1_bytes_0 : Fld Z h0 a1 "com/example/proxysmith/proxysmith/ClassFileWriter$Bytes" "bytes" "[B" (.ref b)) (F_a1_size_0 : Fld Z h0 a1 "com/example/proxysmith/proxysmith/ClassFileWriter$Bytes" "size" "I" (.int (Int32.ofNat sz))) (A_b_0 : Ari Z h0 b .byte n f) (ne_a1_b : a1 ≠ b) (ge_a1 : n0 ≤ a1) (ge_b : n0 ≤ b) (hsn : sz ≤ n) (hmx : n ≤ 16) (hmo : sz + 1 ≤ 7) :
    MetFree l (⟨"com/example/proxysmith/proxysmith/ClassFileWriter$Bytes", "u1", "(I)V"⟩ : MethodName) (head1 (Jvm.Cond.code (⟨"com/example/proxysmith/proxysmith/ClassFileWriter$Bytes", "u1", "(I)V"⟩ : MethodName) prog_13_method_2_code 2 none :: ws) ({ frames := 3, cells := 1, slots := 12, locals := 68 } : Room)) (fun a U => a = #[(.ref a1), (.int p2)] ∧ Z.Warmed39 U.vm ∧ U.heap = h0) (fun _ _ _ _ _ => True) (fun _ U o U' => ∃ v L, o = .returned v ∧ Q3 Z a1 p2 b n sz f h0 n0 v U'.heap L ∧ FrameEnd U o U' L ({ frames := 3, cells := 1, slots := 12, locals := 68 } : Room).cells ({ frames := 3, cells := 1, slots := 12, locals := 68 } : Room).slots) := by
  refine MetFree.of_bodySF (plainFor_of_name pn_3) hisR ?_
  intro p e s m args below meth c s₁ Bd hml0 hP hK
  obtain ⟨rfl, hZ, hh⟩ := hP
  have hx := Bd.exec
  have hby := Bd.bytes
  have hlk := Bd.notSynchronized
  have hml : c.maxLocals = 2 := hml0
  have hown : s.vm.findClass "com/example/proxysmith/proxysmith/ClassFileWriter$Bytes" = some m.cls := findClass_of_methodNamed Bd.named
  have hnm := (name_of_methodNamed Bd.named Bd.method).1
  have X0 : Stand p l e ({ frames := 3, cells := 1, slots := 12, locals := 68 } : Room) s m #[(.ref a1), (.int p2)] below meth c s₁ [] 0 0 := Stand.of_body Bd
  have e0 : s₁.heap = h0 := by rw [← hh, Bd.state]; rfl
  have N0 := Fr.nil n0
  have K0 : Keep h0 h0 [a1, b] := Keep.refl h0 _
  show Goes p e below s ({ frames := 3, cells := 1, slots := 12, locals := 68 } : Room).cells ({ frames := 3, cells := 1, slots := 12, locals := 68 } : Room).slots (Q3 Z a1 p2 b n sz f h0 n0) s₁ (entryFrame m #[(.ref a1), (.int p2)] 2)
  refine Goes.step (fun t k => castTop (ef_3 m a1 p2) k) ?_
  refine Goes.step (fun _ k => XS.aloadN X0.here hx rfl (hb hby d3_0) rfl rfl k) ?_
  show Goes p e below s _ _ _ s₁ (mkF m 1 #[.val (.ref a1), .val (.int p2)] [(.ref a1)])
  refine Goes.step (fun _ k => XS.iconst X0.here hx rfl (hb hby d3_1) k) ?_
  show Goes p e below s _ _ _ s₁ (mkF m 2 #[.val (.ref a1), .val (.int p2)] [(.int (1 : Int32)), (.ref a1)])
  obtain ⟨v1, T1, h1, L1, X1, e1, Q1, st1⟩ := callXP X0 hx hZ (b := a1) (y := (⟨"com/example/proxysmith/proxysmith/ClassFileWriter$Bytes", "room", "(I)V"⟩ : MethodName)) hown (hw _ (List.mem_of_getElem? (i := 17) rfl)) (hw _ (List.mem_of_getElem? (i := 18) rfl)) (hw _ (List.mem_of_getElem? (i := 19) rfl)) (hw _ (List.mem_of_getElem? (i := 1) rfl)) (hw _ (List.mem_of_getElem? (i := 20) rfl)) (hw _ (List.mem_of_getElem? (i := 2) rfl)) (by decide) (W := 0) (argsL := [(.int (1 : Int32))]) (rest := []) (rm4 l Z a0 hw [] a1 1 b n sz f h0 n0 Z0 E_a1_0 F_a1_bytes_0 F_a1_size_0 A_b_0 ne_a1_b ge_a1 ge_b hsn hmx (by omega)) (by decide) (by decide) (by decide) (by decide) e0 E_a1_0 (g := (mkF m 2 #[.val (.ref a1), .val (.int p2)] [(.int (1 : Int32)), (.ref a1)])) rfl (by rw [hml]; rfl) (lenOf pd_3_0 rfl) rfl (by show 2 * 0 + _ ≤ _; exact Nat.le_of_eq rfl) (hb hby d3_2)
  obtain ⟨b1, n1, f1, rfl, NQ1, KQ1, hE1, hFb1, hFs1, hA1, hab1, hg1, ho1, hs1, hn1, hm1, hf1⟩ := Q1
  refine Goes.step st1 ?_
  have E_a1_1 := E_a1_0.keep KQ1
  have A_b_1 := A_b_0.keep KQ1 (ninS (Ne.symm ne_a1_b) nin0)
  have z_1 : n0 ≤ h1.size := Nat.le_trans Z0 KQ1.1
  have K_1 : Keep h0 h1 [a1, b] := Keep.trans K0 KQ1 (allS (Or.inl (List.mem_of_getElem? (i := 0) rfl)) all0)
  have N_1 := Fr.app N0 NQ1
  have mem_b1 : b1 ∈ [a1, b] ∨ h0.size ≤ b1 := ho1.elim (fun q => q ▸ (Or.inl (List.mem_of_getElem? (i := 1) rfl))) (fun q => Or.inr (Nat.le_trans K0.1 q))
  show Goes p e below s _ _ _ T1 (mkF m 5 #[.val (.ref a1), .val (.int p2)] [])
  refine Goes.step (fun _ k => XS.aloadN X1.here hx rfl (hb hby d3_5) rfl rfl k) ?_
  show Goes p e below s _ _ _ T1 (mkF m 6 #[.val (.ref a1), .val (.int p2)] [(.ref a1)])
  obtain ⟨T2, X2, e2, st2⟩ := getF X1 hx hZ hown (host := "") (Or.inl (hw _ (List.mem_of_getElem? (i := 10) rfl))) Via.refl e1 hFb1 (g := (mkF m 6 #[.val (.ref a1), .val (.int p2)] [(.ref a1)])) rfl rfl (hb hby d3_6)
  refine Goes.step st2 ?_
  show Goes p e below s _ _ _ T2 (mkF m 9 #[.val (.ref a1), .val (.int p2)] [(.ref b1)])
  refine Goes.step (fun _ k => XS.aloadN X2.here hx rfl (hb hby d3_9) rfl rfl k) ?_
  show Goes p e below s _ _ _ T2 (mkF m 10 #[.val (.ref a1), .val (.int p2)] [(.ref a1), (.ref b1)])
  refine Goes.step (fun _ k => XS.dup X2.here hx rfl (hb hby d3_10) rfl rfl k) ?_
  show Goes p e below s _ _ _ T2 (mkF m 11 #[.val (.ref a1), .val (.int p2)] [(.ref a1), (.ref a1), (.ref b1)])
  obtain ⟨T3, X3, e3, st3⟩ := getF X2 hx hZ hown (host := "") (Or.inl (hw _ (List.mem_of_getElem? (i := 21) rfl))) Via.refl e2 hFs1 (g := (mkF m 11 #[.val (.ref a1), .val (.int p2)] [(.ref a1), (.ref a1), (.ref b1)])) rfl rfl (hb hby d3_11)
  refine Goes.step st3 ?_
  show Goes p e below s _ _ _ T3 (mkF m 14 #[.val (.ref a1), .val (.int p2)] [(.int (Int32.ofNat (sz))), (.ref a1), (.ref b1)])
  refine Goes.step (fun _ k => XS.dupX1 X3.here hx rfl (hb hby d3_14) rfl rfl rfl k) ?_
  show Goes p e below s _ _ _ T3 (mkF m 15 #[.val (.ref a1), .val (.int p2)] [(.int (Int32.ofNat (sz))), (.ref a1), (.int (Int32.ofNat (sz))), (.ref b1)])
  refine Goes.step (fun _ k => XS.iconst X3.here hx rfl (hb hby d3_15) k) ?_
  show Goes p e below s _ _ _ T3 (mkF m 16 #[.val (.ref a1), .val (.int p2)] [(.int (1 : Int32)), (.int (Int32.ofNat (sz))), (.ref a1), (.int (Int32.ofNat (sz))), (.ref b1)])
  refine Goes.step (fun _ k => XS.iadd X3.here hx rfl (hb hby d3_16) rfl k) ?_
  show Goes p e below s _ _ _ T3 (mkF m 17 #[.val (.ref a1), .val (.int p2)] [(.int ((Int32.ofNat (sz)) + (1 : Int32))), (.ref a1), (.int (Int32.ofNat (sz))), (.ref b1)])
  rw [show (Int32.ofNat sz) + (1 : Int32) = Int32.ofNat (sz + 1) from (Int32.ofNat_add _ 1).symm]
  obtain ⟨T4, h4, X4, e4, W4, st4⟩ := putF X3 hx hZ hown (host := "") (Or.inl (hw _ (List.mem_of_getElem? (i := 21) rfl))) Via.refl e3 hFs1 hE1 (Or.inl (hw _ (List.mem_of_getElem? (i := 22) rfl))) (hw _ (List.mem_of_getElem? (i := 1) rfl)) (ty := .int) (by decide) rfl rfl (g := (mkF m 17 #[.val (.ref a1), .val (.int p2)] [(.int (Int32.ofNat (sz + 1))), (.ref a1), (.int (Int32.ofNat (sz))), (.ref b1)])) rfl rfl (hb hby d3_17)
  refine Goes.step st4 ?_
  have hE1_4 := hE1.wr W4
  have hFb1_4 := hFb1.other W4 (Or.inr (slot_ne (Or.inl (hw _ (List.mem_of_getElem? (i := 11) rfl))) (Or.inl (hw _ (List.mem_of_getElem? (i := 22) rfl))) (by decide) (t := (.array .byte)) (t' := .int) (by decide) (by decide)))
  have hA1_4 := hA1.other W4 (Ne.symm hab1)
  have z_4 : n0 ≤ h4.size := by rw [W4.size]; exact z_1
  have K_4 : Keep h0 h4 [a1, b] := K_1.wr W4 (Or.inl (List.mem_of_getElem? (i := 0) rfl))
  have N_4 := Fr.snoc X4 N_1 ge_a1
  have hFs1_4 : Fld Z h4 a1 "com/example/proxysmith/proxysmith/ClassFileWriter$Bytes" "size" "I" (.int (Int32.ofNat (sz + 1))) := hFs1.same W4
  show Goes p e below s _ _ _ T4 (mkF m 20 #[.val (.ref a1), .val (.int p2)] [(.int (Int32.ofNat (sz))), (.ref b1)])
  refine Goes.step (fun _ k => XS.iloadN X4.here hx rfl (hb hby d3_20) rfl k) ?_
  show Goes p e below s _ _ _ T4 (mkF m 21 #[.val (.ref a1), .val (.int p2)] [(.int p2), (.int (Int32.ofNat (sz))), (.ref b1)])
  refine Goes.step (fun _ k => XS.i2b X4.here hx rfl (hb hby d3_21) rfl k) ?_
  show Goes p e below s _ _ _ T4 (mkF m 22 #[.val (.ref a1), .val (.int p2)] [(.int (p2.toInt8.toInt32)), (.int (Int32.ofNat (sz))), (.ref b1)])
  obtain ⟨T5, h5, X5, e5, W5, A5, st5⟩ := stoB X4 hx hZ e4 hA1_4 (sz) rfl (by omega) (g := (mkF m 22 #[.val (.ref a1), .val (.int p2)] [(.int (p2.toInt8.toInt32)), (.int (Int32.ofNat (sz))), (.ref b1)])) rfl rfl (hb hby d3_22)
  refine Goes.step st5 ?_
  have hE1_5 := hE1_4.wr W5
  have hFb1_5 := hFb1_4.other W5 (Or.inl hab1)
  have hFs1_5 := hFs1_4.other W5 (Or.inl hab1)
  have z_5 : n0 ≤ h5.size := by rw [W5.size]; exact z_4
  have K_5 : Keep h0 h5 [a1, b] := K_4.wr W5 mem_b1
  have N_5 := Fr.snoc X5 N_4 hg1
  have A_b1_5 : Ari Z h5 b1 .byte (n1) (updI f1 (sz) ((p2.toInt8.toInt32).toInt8.toInt32)) := A5
  show Goes p e below s _ _ _ T5 (mkF m 23 #[.val (.ref a1), .val (.int p2)] [])
  exact Goes.outV X5 hx hlk Bd.returns (hb hby d3_23) (by rw [e5]; exact ⟨b1, n1, _, rfl, N_5, K_5, hE1_5, hFb1_5, hFs1_5, A_b1_5, hab1, hg1, ho1, by omega, hn1, own_u1 hf1, own_put0 _ _ _⟩) (by decide) (by decide)
theorem d8_0 : decode prog_13_method_3_code 0 = .ok (.aload_n 0, 1) := by decide +kernel
theorem d8_1 : decode prog_13_method_3_code 1 = .ok (.iconst 2, 1) := by decide +kernel
theorem d8_2 : decode prog_13_method_3_code 2 = .ok (.invokevirtual 15, 3) := by decide +kernel
theorem d8_5 : decode prog_13_method_3_code 5 = .ok (.aload_n 0, 1) := by decide +kernel
theorem d8_6 : decode prog_13_method_3_code 6 = .ok (.getfield 9, 3) := by decide +kernel
theorem d8_9 : decode prog_13_method_3_code 9 = .ok (.aload_n 0, 1) := by decide +kernel
theorem d8_10 : decode prog_13_method_3_code 10 = .ok (.dup, 1) := by decide +kernel
theorem d8_11 : decode prog_13_method_3_code 11 = .ok (.getfield 19, 3) := by decide +kernel
theorem d8_14 : decode prog_13_method_3_code 14 = .ok (.dup_x1, 1) := by decide +kernel
theorem d8_15 : decode prog_13_method_3_code 15 = .ok (.iconst 1, 1) := by decide +kernel
theorem d8_16 : decode prog_13_method_3_code 16 = .ok (.iadd, 1) := by decide +kernel
theorem d8_17 : decode prog_13_method_3_code 17 = .ok (.putfield 19, 3) := by decide +kernel
theorem d8_20 : decode prog_13_method_3_code 20 = .ok (.iload_n 1, 1) := by decide +kernel
theorem d8_21 : decode prog_13_method_3_code 21 = .ok (.bipush 8, 2) := by decide +kernel
theorem d8_23 : decode prog_13_method_3_code 23 = .ok (.iushr, 1) := by decide +kernel
theorem d8_24 : decode prog_13_method_3_code 24 = .ok (.i2b, 1) := by decide +kernel
theorem d8_25 : decode prog_13_method_3_code 25 = .ok (.bastore, 1) := by decide +kernel
theorem d8_26 : decode prog_13_method_3_code 26 = .ok (.aload_n 0, 1) := by decide +kernel
theorem d8_27 : decode prog_13_method_3_code 27 = .ok (.getfield 9, 3) := by decide +kernel
theorem d8_30 : decode prog_13_method_3_code 30 = .ok (.aload_n 0, 1) := by decide +kernel
theorem d8_31 : decode prog_13_method_3_code 31 = .ok (.dup, 1) := by decide +kernel
theorem d8_32 : decode prog_13_method_3_code 32 = .ok (.getfield 19, 3) := by decide +kernel
theorem d8_35 : decode prog_13_method_3_code 35 = .ok (.dup_x1, 1) := by decide +kernel
theorem d8_36 : decode prog_13_method_3_code 36 = .ok (.iconst 1, 1) := by decide +kernel
theorem d8_37 : decode prog_13_method_3_code 37 = .ok (.iadd, 1) := by decide +kernel
theorem d8_38 : decode prog_13_method_3_code 38 = .ok (.putfield 19, 3) := by decide +kernel
theorem d8_41 : decode prog_13_method_3_code 41 = .ok (.iload_n 1, 1) := by decide +kernel
theorem d8_42 : decode prog_13_method_3_code 42 = .ok (.i2b, 1) := by decide +kernel
theorem d8_43 : decode prog_13_method_3_code 43 = .ok (.bastore, 1) := by decide +kernel
theorem d8_44 : decode prog_13_method_3_code 44 = .ok (.return_, 1) := by decide +kernel
theorem pn_8 : plainName "com/example/proxysmith/proxysmith/ClassFileWriter$Bytes" = true := by first | (simp [plainName, overriddenIn]; done) | decide +kernel
theorem pd_8_0 : parseMethodDescriptor "(I)V" = some ⟨[.int], none⟩ := by decide +kernel
theorem ef_8 (m : MethodId) (a1 : Addr) (p2 : Int32) : entryFrame m #[(.ref a1), (.int p2)] 2 = mkF m 0 #[.val (.ref a1), .val (.int p2)] [] := by first | (simp [entryFrame, mkF, argsToLocals, Value.category]; done) | rfl
def Q8 (Z : State) (a1 : Addr) (p2 : Int32) (b : Addr) (n : Nat) (sz : Nat) (f : Nat → Int32) (h0 : Heap) (n0 : Nat) (v : Option Value) (h : Heap) (L : List Loc) : Prop := ∃ b' n' f', v = none ∧ Fr n0 L ∧ Keep h0 h [a1, b] ∧ Exa Z h a1 "com/example/proxysmith/proxysmith/ClassFileWriter$Bytes" ∧ Fld Z h a1 "com/example/proxysmith/proxysmith/ClassFileWriter$Bytes" "bytes" "[B" (.ref b') ∧ Fld Z h a1 "com/example/proxysmith/proxysmith/ClassFileWriter$Bytes" "size" "I" (.int (Int32.ofNat (sz + 2))) ∧ Ari Z h b' .byte n' f' ∧ a1 ≠ b' ∧ n0 ≤ b' ∧ (b' = b ∨ h0.size ≤ b') ∧ sz + 2 ≤ n' ∧ n' ≤ 16 ∧ (∀ j, j < sz → f' j = f j) ∧ f' sz = ((p2.toUInt32 >>> ((8 : Int32) &&& 31).toUInt32).toInt32).toInt8.toInt32 ∧ f' (sz + 1) = p2.toInt8.toInt32
set_option maxRecDepth 65536 in
set_option maxHeartbeats 40000000 in
theorem rm8 (l : Launch) (Z : State) (a0 : Array Value) (hw : ∀ d ∈ tables_1, d.before a0 Z = true) (ws : List Jvm.Cond) (a1 : Addr) (p2 : Int32) (b : Addr) (n : Nat) (sz : Nat) (f : Nat → Int32) (h0 : Heap) (n0 : Nat) (Z0 : n0 ≤ h0.size) (E_a1_0 : Exa Z h0 a1 "com/example/proxysmith/proxysmith/ClassFileWriter$Bytes") (F_a1_bytes_0 : Fld Z h0 a1 "com/example/proxysmith/proxysmith/ClassFileWriter$Bytes" "bytes" "[B" (.ref b)) (F_a1_size_0 : Fld Z h0 a1 "com/example/proxysmith/proxysmith/ClassFileWriter$Bytes" "size" "I" (.int (Int32.ofNat sz))) (A_b_0 : Ari Z h0 b .byte n f) (ne_a1_b : a1 ≠ b) (ge_a1 : n0 ≤ a1) (ge_b : n0 ≤ b) (hsn : sz ≤ n) (hmx : n ≤ 16) (hmo : sz + 2 ≤ 7) :
    MetFree l (⟨"com/example/proxysmith/proxysmith/ClassFileWriter$Bytes", "u2", "(I)V"⟩ : MethodName) (head1 (Jvm.Cond.code (⟨"com/example/proxysmith/proxysmith/ClassFileWriter$Bytes", "u2", "(I)V"⟩ : MethodName) prog_13_method_3_code 2 none :: ws) ({ frames := 3, cells := 1, slots := 12, locals := 68 } : Room)) (fun a U => a = #[(.ref a1), (.int p2)] ∧ Z.Warmed39 U.vm ∧ U.heap = h0) (fun _ _ _ _ _ => True) (fun _ U o U' => ∃ v L, o = .returned v ∧ Q8 Z a1 p2 b n sz f h0 n0 v U'.heap L ∧ FrameEnd U o U' L ({ frames := 3, cells := 1, slots := 12, locals := 68 } : Room).cells ({ frames := 3, cells := 1, slots := 12, locals := 68 } : Room).slots) := by
  refine MetFree.of_bodySF (plainFor_of_name pn_8) hisR ?_
  intro p e s m args below meth c s₁ Bd hml0 hP hK
  obtain ⟨rfl, hZ, hh⟩ := hP
  have hx := Bd.exec
  have hby := Bd.bytes
  have hlk := Bd.notSynchronized
  have hml : c.maxLocals = 2 := hml0
  have hown : s.vm.findClass "com/example/proxysmith/proxysmith/ClassFileWriter$Bytes" = some m.cls := findClass_of_methodNamed Bd.named
  have hnm := (name_of_methodNamed Bd.named Bd.method).1
  have X0 : Stand p l e ({ frames := 3, cells := 1, slots := 12, locals := 68 } : Room) s m #[(.ref a1), (.int p2)] below meth c s₁ [] 0 0 := Stand.of_body Bd
  have e0 : s₁.heap = h0 := by rw [← hh, Bd.state]; rfl
  have N0 := Fr.nil n0
  have K0 : Keep h0 h0 [a1, b] := Keep.refl h0 _
  show Goes p e below s ({ frames := 3, cells := 1, slots := 12, locals := 68 } : Room).cells ({ frames := 3, cells := 1, slots := 12, locals := 68 } : Room).slots (Q8 Z a1 p2 b n sz f h0 n0) s₁ (entryFrame m #[(.ref a1), (.int p2)] 2)
  refine Goes.step (fun t k => castTop (ef_8 m a1 p2) k) ?_
  refine Goes.step (fun _ k => XS.aloadN X0.here hx rfl (hb hby d8_0) rfl rfl k) ?_
  show Goes p e below s _ _ _ s₁ (mkF m 1 #[.val (.ref a1), .val (.int p2)] [(.ref a1)])
  refine Goes.step (fun _ k => XS.iconst X0.here hx rfl (hb hby d8_1) k) ?_
  show Goes p e below s _ _ _ s₁ (mkF m 2 #[.val (.ref a1), .val (.int p2)] [(.int (2 : Int32)), (.ref a1)])
  obtain ⟨v1, T1, h1, L1, X1, e1, Q1, st1⟩ := callXP X0 hx hZ (b := a1) (y := (⟨"com/example/proxysmith/proxysmith/ClassFileWriter$Bytes", "room", "(I)V"⟩ : MethodName)) hown (hw _ (List.mem_of_getElem? (i := 17) rfl)) (hw _ (List.mem_of_getElem? (i := 18) rfl)) (hw _ (List.mem_of_getElem? (i := 19) rfl)) (hw _ (List.mem_of_getElem? (i := 1) rfl)) (hw _ (List.mem_of_getElem? (i := 20) rfl)) (hw _ (List.mem_of_getElem? (i := 2) rfl)) (by decide) (W := 0) (argsL := [(.int (2 : Int32))]) (rest := []) (rm4 l Z a0 hw [] a1 2 b n sz f h0 n0 Z0 E_a1_0 F_a1_bytes_0 F_a1_size_0 A_b_0 ne_a1_b ge_a1 ge_b hsn hmx (by omega)) (by decide) (by decide) (by decide) (by decide) e0 E_a1_0 (g := (mkF m 2 #[.val (.ref a1), .val (.int p2)] [(.int (2 : Int32)), (.ref a1)])) rfl (by rw [hml]; rfl) (lenOf pd_8_0 rfl) rfl (by show 2 * 0 + _ ≤ _; exact Nat.le_of_eq rfl) (hb hby d8_2)
  obtain ⟨b1, n1, f1, rfl, NQ1, KQ1, hE1, hFb1, hFs1, hA1, hab1, hg1, ho1, hs1, hn1, hm1, hf1⟩ := Q1
  refine Goes.step st1 ?_
  have E_a1_1 := E_a1_0.keep KQ1
  have A_b_1 := A_b_0.keep KQ1 (ninS (Ne.symm ne_a1_b) nin0)
  have z_1 : n0 ≤ h1.size := Nat.le_trans Z0 KQ1.1
  have K_1 : Keep h0 h1 [a1, b] := Keep.trans K0 KQ1 (allS (Or.inl (List.mem_of_getElem? (i := 0) rfl)) all0)
  have N_1 := Fr.app N0 NQ1
  have mem_b1 : b1 ∈ [a1, b] ∨ h0.size ≤ b1 := ho1.elim (fun q => q ▸ (Or.inl (List.mem_of_getElem? (i := 1) rfl))) (fun q => Or.inr (Nat.le_trans K0.1 q))
  show Goes p e below s _ _ _ T1 (mkF m 5 #[.val (.ref a1), .val (.int p2)] [])
  refine Goes.step (fun _ k => XS.aloadN X1.here hx rfl (hb hby d8_5) rfl rfl k) ?_
  show Goes p e below s _ _ _ T1 (mkF m 6 #[.val (.ref a1), .val (.int p2)] [(.ref a1)])
  obtain ⟨T2, X2, e2, st2⟩ := getF X1 hx hZ hown (host := "") (Or.inl (hw _ (List.mem_of_getElem? (i := 10) rfl))) Via.refl e1 hFb1 (g := (mkF m 6 #[.val (.ref a1), .val (.int p2)] [(.ref a1)])) rfl rfl (hb hby d8_6)
  refine Goes.step st2 ?_
  show Goes p e below s _ _ _ T2 (mkF m 9 #[.val (.ref a1), .val (.int p2)] [(.ref b1)])
  refine Goes.step (fun _ k => XS.aloadN X2.here hx rfl (hb hby d8_9) rfl rfl k) ?_
  show Goes p e below s _ _ _ T2 (mkF m 10 #[.val (.ref a1), .val (.int p2)] [(.ref a1), (.ref b1)])
  refine Goes.step (fun _ k => XS.dup X2.here hx rfl (hb hby d8_10) rfl rfl k) ?_
  show Goes p e below s _ _ _ T2 (mkF m 11 #[.val (.ref a1), .val (.int p2)] [(.ref a1), (.ref a1), (.ref b1)])
  obtain ⟨T3, X3, e3, st3⟩ := getF X2 hx hZ hown (host := "") (Or.inl (hw _ (List.mem_of_getElem? (i := 21) rfl))) Via.refl e2 hFs1 (g := (mkF m 11 #[.val (.ref a1), .val (.int p2)] [(.ref a1), (.ref a1), (.ref b1)])) rfl rfl (hb hby d8_11)
  refine Goes.step st3 ?_
  show Goes p e below s _ _ _ T3 (mkF m 14 #[.val (.ref a1), .val (.int p2)] [(.int (Int32.ofNat (sz))), (.ref a1), (.ref b1)])
  refine Goes.step (fun _ k => XS.dupX1 X3.here hx rfl (hb hby d8_14) rfl rfl rfl k) ?_
  show Goes p e below s _ _ _ T3 (mkF m 15 #[.val (.ref a1), .val (.int p2)] [(.int (Int32.ofNat (sz))), (.ref a1), (.int (Int32.ofNat (sz))), (.ref b1)])
  refine Goes.step (fun _ k => XS.iconst X3.here hx rfl (hb hby d8_15) k) ?_
  show Goes p e below s _ _ _ T3 (mkF m 16 #[.val (.ref a1), .val (.int p2)] [(.int (1 : Int32)), (.int (Int32.ofNat (sz))), (.ref a1), (.int (Int32.ofNat (sz))), (.ref b1)])
  refine Goes.step (fun _ k => XS.iadd X3.here hx rfl (hb hby d8_16) rfl k) ?_
  show Goes p e below s _ _ _ T3 (mkF m 17 #[.val (.ref a1), .val (.int p2)] [(.int ((Int32.ofNat (sz)) + (1 : Int32))), (.ref a1), (.int (Int32.ofNat (sz))), (.ref b1)])
  rw [show (Int32.ofNat sz) + (1 : Int32) = Int32.ofNat (sz + 1) from (Int32.ofNat_add _ 1).symm]
  obtain ⟨T4, h4, X4, e4, W4, st4⟩ := putF X3 hx hZ hown (host := "") (Or.inl (hw _ (List.mem_of_getElem? (i := 21) rfl))) Via.refl e3 hFs1 hE1 (Or.inl (hw _ (List.mem_of_getElem? (i := 22) rfl))) (hw _ (List.mem_of_getElem? (i := 1) rfl)) (ty := .int) (by decide) rfl rfl (g := (mkF m 17 #[.val (.ref a1), .val (.int p2)] [(.int (Int32.ofNat (sz + 1))), (.ref a1), (.int (Int32.ofNat (sz))), (.ref b1)])) rfl rfl (hb hby d8_17)
  refine Goes.step st4 ?_
  have hE1_4 := hE1.wr W4
  have hFb1_4 := hFb1.other W4 (Or.inr (slot_ne (Or.inl (hw _ (List.mem_of_getElem? (i := 11) rfl))) (Or.inl (hw _ (List.mem_of_getElem? (i := 22) rfl))) (by decide) (t := (.array .byte)) (t' := .int) (by decide) (by decide)))
  have hA1_4 := hA1.other W4 (Ne.symm hab1)
  have z_4 : n0 ≤ h4.size := by rw [W4.size]; exact z_1
  have K_4 : Keep h0 h4 [a1, b] := K_1.wr W4 (Or.inl (List.mem_of_getElem? (i := 0) rfl))
  have N_4 := Fr.snoc X4 N_1 ge_a1
  have hFs1_4 : Fld Z h4 a1 "com/example/proxysmith/proxysmith/ClassFileWriter$Bytes" "size" "I" (.int (Int32.ofNat (sz + 1))) := hFs1.same W4
  show Goes p e below s _ _ _ T4 (mkF m 20 #[.val (.ref a1), .val (.int p2)] [(.int (Int32.ofNat (sz))), (.ref b1)])
  refine Goes.step (fun _ k => XS.iloadN X4.here hx rfl (hb hby d8_20) rfl k) ?_
  show Goes p e below s _ _ _ T4 (mkF m 21 #[.val (.ref a1), .val (.int p2)] [(.int p2), (.int (Int32.ofNat (sz))), (.ref b1)])
  refine Goes.step (fun _ k => XS.bipush X4.here hx rfl (hb hby d8_21) k) ?_
  show Goes p e below s _ _ _ T4 (mkF m 23 #[.val (.ref a1), .val (.int p2)] [(.int (8 : Int32)), (.int p2), (.int (Int32.ofNat (sz))), (.ref b1)])
  refine Goes.step (fun _ k => XS.iushr X4.here hx rfl (hb hby d8_23) rfl k) ?_
  show Goes p e below s _ _ _ T4 (mkF m 24 #[.val (.ref a1), .val (.int p2)] [(.int ((p2.toUInt32 >>> ((8 : Int32) &&& 31).toUInt32).toInt32)), (.int (Int32.ofNat (sz))), (.ref b1)])
  refine Goes.step (fun _ k => XS.i2b X4.here hx rfl (hb hby d8_24) rfl k) ?_
  show Goes p e below s _ _ _ T4 (mkF m 25 #[.val (.ref a1), .val (.int p2)] [(.int (((p2.toUInt32 >>> ((8 : Int32) &&& 31).toUInt32).toInt32).toInt8.toInt32)), (.int (Int32.ofNat (sz))), (.ref b1)])
  obtain ⟨T5, h5, X5, e5, W5, A5, st5⟩ := stoB X4 hx hZ e4 hA1_4 (sz) rfl (by omega) (g := (mkF m 25 #[.val (.ref a1), .val (.int p2)] [(.int (((p2.toUInt32 >>> ((8 : Int32) &&& 31).toUInt32).toInt32).toInt8.toInt32)), (.int (Int32.ofNat (sz))), (.ref b1)])) rfl rfl (hb hby d8_25)
  refine Goes.step st5 ?_
  have hE1_5 := hE1_4.wr W5
  have hFb1_5 := hFb1_4.other W5 (Or.inl hab1)
  have hFs1_5 := hFs1_4.other W5 (Or.inl hab1)
  have z_5 : n0 ≤ h5.size := by rw [W5.size]; exact z_4
  have K_5 : Keep h0 h5 [a1, b] := K_4.wr W5 mem_b1
  have N_5 := Fr.snoc X5 N_4 hg1
  have A_b1_5 : Ari Z h5 b1 .byte (n1) (updI f1 (sz) ((((p2.toUInt32 >>> ((8 : Int32) &&& 31).toUInt32).toInt32).toInt8.toInt32).toInt8.toInt32)) := A5
  show Goes p e below s _ _ _ T5 (mkF m 26 #[.val (.ref a1), .val (.int p2)] [])
  refine Goes.step (fun _ k => XS.aloadN X5.here hx rfl (hb hby d8_26) rfl rfl k) ?_
  show Goes p e below s _ _ _ T5 (mkF m 27 #[.val (.ref a1), .val (.int p2)] [(.ref a1)])
  obtain ⟨T6, X6, e6, st6⟩ := getF X5 hx hZ hown (host := "") (Or.inl (hw _ (List.mem_of_getElem? (i := 10) rfl))) Via.refl e5 hFb1_5 (g := (mkF m 27 #[.val (.ref a1), .val (.int p2)] [(.ref a1)])) rfl rfl (hb hby d8_27)
  refine Goes.step st6 ?_
  show Goes p e below s _ _ _ T6 (mkF m 30 #[.val (.ref a1), .val (.int p2)] [(.ref b1)])
  refine Goes.step (fun _ k => XS.aloadN X6.here hx rfl (hb hby d8_30) rfl rfl k) ?_
  show Goes p e below s _ _ _ T6 (mkF m 31 #[.val (.ref a1), .val (.int p2)] [(.ref a1), (.ref b1)])
  refine Goes.step (fun _ k => XS.dup X6.here hx rfl (hb hby d8_31) rfl rfl k) ?_
  show Goes p e below s _ _ _ T6 (mkF m 32 #[.val (.ref a1), .val (.int p2)] [(.ref a1), (.ref a1), (.ref b1)])
  obtain ⟨T7, X7, e7, st7⟩ := getF X6 hx hZ hown (host := "") (Or.inl (hw _ (List.mem_of_getElem? (i := 21) rfl))) Via.refl e6 hFs1_5 (g := (mkF m 32 #[.val (.ref a1), .val (.int p2)] [(.ref a1), (.ref a1), (.ref b1)])) rfl rfl (hb hby d8_32)
  refine Goes.step st7 ?_
  show Goes p e below s _ _ _ T7 (mkF m 35 #[.val (.ref a1), .val (.int p2)] [(.int (Int32.ofNat (sz + 1))), (.ref a1), (.ref b1)])
  refine Goes.step (fun _ k => XS.dupX1 X7.here hx rfl (hb hby d8_35) rfl rfl rfl k) ?_
  show Goes p e below s _ _ _ T7 (mkF m 36 #[.val (.ref a1), .val (.int p2)] [(.int (Int32.ofNat (sz + 1))), (.ref a1), (.int (Int32.ofNat (sz + 1))), (.ref b1)])
  refine Goes.step (fun _ k => XS.iconst X7.here hx rfl (hb hby d8_36) k) ?_
  show Goes p e below s _ _ _ T7 (mkF m 37 #[.val (.ref a1), .val (.int p2)] [(.int (1 : Int32)), (.int (Int32.ofNat (sz + 1))), (.ref a1), (.int (Int32.ofNat (sz + 1))), (.ref b1)])
  refine Goes.step (fun _ k => XS.iadd X7.here hx rfl (hb hby d8_37) rfl k) ?_
  show Goes p e below s _ _ _ T7 (mkF m 38 #[.val (.ref a1), .val (.int p2)] [(.int ((Int32.ofNat (sz + 1)) + (1 : Int32))), (.ref a1), (.int (Int32.ofNat (sz + 1))), (.ref b1)])
  rw [show (Int32.ofNat (sz + 1)) + (1 : Int32) = Int32.ofNat (sz + 2) from (Int32.ofNat_add _ 1).symm]
  obtain ⟨T8, h8, X8, e8, W8, st8⟩ := putF X7 hx hZ hown (host := "") (Or.inl (hw _ (List.mem_of_getElem? (i := 21) rfl))) Via.refl e7 hFs1_5 hE1_5 (Or.inl (hw _ (List.mem_of_getElem? (i := 22) rfl))) (hw _ (List.mem_of_getElem? (i := 1) rfl)) (ty := .int) (by decide) rfl rfl (g := (mkF m 38 #[.val (.ref a1), .val (.int p2)] [(.int (Int32.ofNat (sz + 2))), (.ref a1), (.int (Int32.ofNat (sz + 1))), (.ref b1)])) rfl rfl (hb hby d8_38)
  refine Goes.step st8 ?_
  have hE1_8 := hE1_5.wr W8
  have hFb1_8 := hFb1_5.other W8 (Or.inr (slot_ne (Or.inl (hw _ (List.mem_of_getElem? (i := 11) rfl))) (Or.inl (hw _ (List.mem_of_getElem? (i := 22) rfl))) (by decide) (t := (.array .byte)) (t' := .int) (by decide) (by decide)))
  have A_b1_8 := A_b1_5.other W8 (Ne.symm hab1)
  have z_8 : n0 ≤ h8.size := by rw [W8.size]; exact z_5
  have K_8 : Keep h0 h8 [a1, b] := K_5.wr W8 (Or.inl (List.mem_of_getElem? (i := 0) rfl))
  have N_8 := Fr.snoc X8 N_5 ge_a1
  have hFs1_8 : Fld Z h8 a1 "com/example/proxysmith/proxysmith/ClassFileWriter$Bytes" "size" "I" (.int (Int32.ofNat (sz + 2))) := hFs1_5.same W8
  show Goes p e below s _ _ _ T8 (mkF m 41 #[.val (.ref a1), .val (.int p2)] [(.int (Int32.ofNat (sz + 1))), (.ref b1)])
  refine Goes.step (fun _ k => XS.iloadN X8.here hx rfl (hb hby d8_41) rfl k) ?_
  show Goes p e below s _ _ _ T8 (mkF m 42 #[.val (.ref a1), .val (.int p2)] [(.int p2), (.int (Int32.ofNat (sz + 1))), (.ref b1)])
  refine Goes.step (fun _ k => XS.i2b X8.here hx rfl (hb hby d8_42) rfl k) ?_
  show Goes p e below s _ _ _ T8 (mkF m 43 #[.val (.ref a1), .val (.int p2)] [(.int (p2.toInt8.toInt32)), (.int (Int32.ofNat (sz + 1))), (.ref b1)])
  obtain ⟨T9, h9, X9, e9, W9, A9, st9⟩ := stoB X8 hx hZ e8 A_b1_8 (sz + 1) rfl (by omega) (g := (mkF m 43 #[.val (.ref a1), .val (.int p2)] [(.int (p2.toInt8.toInt32)), (.int (Int32.ofNat (sz + 1))), (.ref b1)])) rfl rfl (hb hby d8_43)
  refine Goes.step st9 ?_
  have hE1_9 := hE1_8.wr W9
  have hFb1_9 := hFb1_8.other W9 (Or.inl hab1)
  have hFs1_9 := hFs1_8.other W9 (Or.inl hab1)
  have z_9 : n0 ≤ h9.size := by rw [W9.size]; exact z_8
  have K_9 : Keep h0 h9 [a1, b] := K_8.wr W9 mem_b1
  have N_9 := Fr.snoc X9 N_8 hg1
  have A_b1_9 : Ari Z h9 b1 .byte (n1) (updI (updI f1 (sz) ((((p2.toUInt32 >>> ((8 : Int32) &&& 31).toUInt32).toInt32).toInt8.toInt32).toInt8.toInt32)) (sz + 1) ((p2.toInt8.toInt32).toInt8.toInt32)) := A9
  show Goes p e below s _ _ _ T9 (mkF m 44 #[.val (.ref a1), .val (.int p2)] [])
  exact Goes.outV X9 hx hlk Bd.returns (hb hby d8_44) (by rw [e9]; exact ⟨b1, n1, _, rfl, N_9, K_9, hE1_9, hFb1_9, hFs1_9, A_b1_9, hab1, hg1, ho1, by omega, hn1, own_u2 hf1, own_put1 _ _ _ _, own_put0 _ _ _⟩) (by decide) (by decide)
theorem d11_0 : decode prog_13_method_4_code 0 = .ok (.aload_n 0, 1) := by decide +kernel
theorem d11_1 : decode prog_13_method_4_code 1 = .ok (.iload_n 1, 1) := by decide +kernel
theorem d11_2 : decode prog_13_method_4_code 2 = .ok (.bipush 16, 2) := by decide +kernel
theorem d11_4 : decode prog_13_method_4_code 4 = .ok (.iushr, 1) := by decide +kernel
theorem d11_5 : decode prog_13_method_4_code 5 = .ok (.invokevirtual 23, 3) := by decide +kernel
theorem d11_8 : decode prog_13_method_4_code 8 = .ok (.aload_n 0, 1) := by decide +kernel
theorem d11_9 : decode prog_13_method_4_code 9 = .ok (.iload_n 1, 1) := by decide +kernel
theorem d11_10 : decode prog_13_method_4_code 10 = .ok (.invokevirtual 23, 3) := by decide +kernel
theorem d11_13 : decode prog_13_method_4_code 13 = .ok (.return_, 1) := by decide +kernel
theorem pn_11 : plainName "com/example/proxysmith/proxysmith/ClassFileWriter$Bytes" = true := by first | (simp [plainName, overriddenIn]; done) | decide +kernel
theorem pd_11_0 : parseMethodDescriptor "(I)V" = some ⟨[.int], none⟩ := by decide +kernel
theorem ef_11 (m : MethodId) (a1 : Addr) (p2 : Int32) : entryFrame m #[(.ref a1), (.int p2)] 2 = mkF m 0 #[.val (.ref a1), .val (.int p2)] [] := by first | (simp [entryFrame, mkF, argsToLocals, Value.category]; done) | rfl
def Q11 (Z : State) (a1 : Addr) (p2 : Int32) (b : Addr) (n : Nat) (sz : Nat) (f : Nat → Int32) (h0 : Heap) (n0 : Nat) (v : Option Value) (h : Heap) (L : List Loc) : Prop := ∃ b' n' f', v = none ∧ Fr n0 L ∧ Keep h0 h [a1, b] ∧ Exa Z h a1 "com/example/proxysmith/proxysmith/ClassFileWriter$Bytes" ∧ Fld Z h a1 "com/example/proxysmith/proxysmith/ClassFileWriter$Bytes" "bytes" "[B" (.ref b') ∧ Fld Z h a1 "com/example/proxysmith/proxysmith/ClassFileWriter$Bytes" "size" "I" (.int (Int32.ofNat (sz + 4))) ∧ Ari Z h b' .byte n' f' ∧ a1 ≠ b' ∧ n0 ≤ b' ∧ (b' = b ∨ h0.size ≤ b') ∧ sz + 4 ≤ n' ∧ n' ≤ 16 ∧ (∀ j, j < sz → f' j = f j) ∧ f' sz = ((((p2.toUInt32 >>> ((16 : Int32) &&& 31).toUInt32).toInt32).toUInt32 >>> ((8 : Int32) &&& 31).toUInt32).toInt32).toInt8.toInt32 ∧ f' (sz + 1) = ((p2.toUInt32 >>> ((16 : Int32) &&& 31).toUInt32).toInt32).toInt8.toInt32 ∧ f' (sz + 2) = ((p2.toUInt32 >>> ((8 : Int32) &&& 31).toUInt32).toInt32).toInt8.toInt32 ∧ f' (sz + 3) = p2.toInt8.toInt32
set_option maxRecDepth 65536 in
set_option maxHeartbeats 40000000 in
theorem rm11 (l : Launch) (Z : State) (a0 : Array Value) (hw : ∀ d ∈ tables_1, d.before a0 Z = true) (ws : List Jvm.Cond) (a1 : Addr) (p2 : Int32) (b : Addr) (n : Nat) (sz : Nat) (f : Nat → Int32) (h0 : Heap) (n0 : Nat) (Z0 : n0 ≤ h0.size) (E_a1_0 : Exa Z h0 a1 "com/example/proxysmith/proxysmith/ClassFileWriter$Bytes") (F_a1_bytes_0 : Fld Z h0 a1 "com/example/proxysmith/proxysmith/ClassFileWriter$Bytes" "bytes" "[B" (.ref b)) (F_a1_size_0 : Fld Z h0 a1 "com/example/proxysmith/proxysmith/ClassFileWriter$Bytes" "size" "I" (.int (Int32.ofNat sz))) (A_b_0 : Ari Z h0 b .byte n f) (ne_a1_b : a1 ≠ b) (ge_a1 : n0 ≤ a1) (ge_b : n0 ≤ b) (hsn : sz ≤ n) (hmx : n ≤ 16) (hmo : sz + 4 ≤ 7) :
    MetFree l (⟨"com/example/proxysmith/proxysmith/ClassFileWriter$Bytes", "u4", "(I)V"⟩ : MethodName) (head1 (Jvm.Cond.code (⟨"com/example/proxysmith/proxysmith/ClassFileWriter$Bytes", "u4", "(I)V"⟩ : MethodName) prog_13_method_4_code 2 none :: ws) ({ frames := 4, cells := 2, slots := 24, locals := 81 } : Room)) (fun a U => a = #[(.ref a1), (.int p2)] ∧ Z.Warmed39 U.vm ∧ U.heap = h0) (fun _ _ _ _ _ => True) (fun _ U o U' => ∃ v L, o = .returned v ∧ Q11 Z a1 p2 b n sz f h0 n0 v U'.heap L ∧ FrameEnd U o U' L ({ frames := 4, cells := 2, slots := 24, locals := 81 } : Room).cells ({ frames := 4, cells := 2, slots := 24, locals := 81 } : Room).slots) := by
  refine MetFree.of_bodySF (plainFor_of_name pn_11) hisR ?_
  intro p e s m args below meth c s₁ Bd hml0 hP hK
  obtain ⟨rfl, hZ, hh⟩ := hP
  have hx := Bd.exec
  have hby := Bd.bytes
  have hlk := Bd.notSynchronized
  have hml : c.maxLocals = 2 := hml0
  have hown : s.vm.findClass "com/example/proxysmith/proxysmith/ClassFileWriter$Bytes" = some m.cls := findClass_of_methodNamed Bd.named
  have hnm := (name_of_methodNamed Bd.named Bd.method).1
  have X0 : Stand p l e ({ frames := 4, cells := 2, slots := 24, locals := 81 } : Room) s m #[(.ref a1), (.int p2)] below meth c s₁ [] 0 0 := Stand.of_body Bd
  have e0 : s₁.heap = h0 := by rw [← hh, Bd.state]; rfl
  have N0 := Fr.nil n0
  have K0 : Keep h0 h0 [a1, b] := Keep.refl h0 _
  show Goes p e below s ({ frames := 4, cells := 2, slots := 24, locals := 81 } : Room).cells ({ frames := 4, cells := 2, slots := 24, locals := 81 } : Room).slots (Q11 Z a1 p2 b n sz f h0 n0) s₁ (entryFrame m #[(.ref a1), (.int p2)] 2)
  refine Goes.step (fun t k => castTop (ef_11 m a1 p2) k) ?_
  refine Goes.step (fun _ k => XS.aloadN X0.here hx rfl (hb hby d11_0) rfl rfl k) ?_
  show Goes p e below s _ _ _ s₁ (mkF m 1 #[.val (.ref a1), .val (.int p2)] [(.ref a1)])
  refine Goes.step (fun _ k => XS.iloadN X0.here hx rfl (hb hby d11_1) rfl k) ?_
  show Goes p e below s _ _ _ s₁ (mkF m 2 #[.val (.ref a1), .val (.int p2)] [(.int p2), (.ref a1)])
  refine Goes.step (fun _ k => XS.bipush X0.here hx rfl (hb hby d11_2) k) ?_
  show Goes p e below s _ _ _ s₁ (mkF m 4 #[.val (.ref a1), .val (.int p2)] [(.int (16 : Int32)), (.int p2), (.ref a1)])
  refine Goes.step (fun _ k => XS.iushr X0.here hx rfl (hb hby d11_4) rfl k) ?_
  show Goes p e below s _ _ _ s₁ (mkF m 5 #[.val (.ref a1), .val (.int p2)] [(.int ((p2.toUInt32 >>> ((16 : Int32) &&& 31).toUInt32).toInt32)), (.ref a1)])
  obtain ⟨v1, T1, h1, L1, X1, e1, Q1, st1⟩ := callXV X0 hx hZ (C := "com/example/proxysmith/proxysmith/ClassFileWriter$Bytes") (b := a1) (y := (⟨"com/example/proxysmith/proxysmith/ClassFileWriter$Bytes", "u2", "(I)V"⟩ : MethodName)) (z := (⟨"com/example/proxysmith/proxysmith/ClassFileWriter$Bytes", "u2", "(I)V"⟩ : MethodName)) hown (hw _ (List.mem_of_getElem? (i := 57) rfl)) (hw _ (List.mem_of_getElem? (i := 39) rfl)) (hw _ (List.mem_of_getElem? (i := 41) rfl)) (hw _ (List.mem_of_getElem? (i := 40) rfl)) (hw _ (List.mem_of_getElem? (i := 42) rfl)) (hw _ (List.mem_of_getElem? (i := 2) rfl)) (notFace_of_selects (args := #[]) (mvT hZ (hw _ (List.mem_of_getElem? (i := 41) rfl)))) (by decide) (W := 0) (argsL := [(.int ((p2.toUInt32 >>> ((16 : Int32) &&& 31).toUInt32).toInt32))]) (rest := []) (rm8 l Z a0 hw [] a1 ((p2.toUInt32 >>> ((16 : Int32) &&& 31).toUInt32).toInt32) b n sz f h0 n0 Z0 E_a1_0 F_a1_bytes_0 F_a1_size_0 A_b_0 ne_a1_b ge_a1 ge_b hsn hmx (by omega)) (by decide) (by decide) (by decide) (by decide) e0 E_a1_0 (g := (mkF m 5 #[.val (.ref a1), .val (.int p2)] [(.int ((p2.toUInt32 >>> ((16 : Int32) &&& 31).toUInt32).toInt32)), (.ref a1)])) rfl (by rw [hml]; rfl) (lenOf pd_11_0 rfl) rfl (by show 2 * 0 + _ ≤ _; exact Nat.le_of_eq rfl) (hb hby d11_5)
  obtain ⟨b1, n1, f1, rfl, NQ1, KQ1, hE1, hFb1, hFs1, hA1, hab1, hg1, ho1, hs1, hn1, hf1, hv1, hu1⟩ := Q1
  refine Goes.step st1 ?_
  have E_a1_1 := E_a1_0.keep KQ1
  have z_1 : n0 ≤ h1.size := Nat.le_trans Z0 KQ1.1
  have K_1 : Keep h0 h1 [a1, b] := Keep.trans K0 KQ1 (allS (Or.inl (List.mem_of_getElem? (i := 0) rfl)) (allS (Or.inl (List.mem_of_getElem? (i := 1) rfl)) all0))
  have N_1 := Fr.app N0 NQ1
  have mem_b1 : b1 ∈ [a1, b] ∨ h0.size ≤ b1 := ho1.elim (fun q => q ▸ (Or.inl (List.mem_of_getElem? (i := 1) rfl))) (fun q => Or.inr (Nat.le_trans K0.1 q))
  show Goes p e below s _ _ _ T1 (mkF m 8 #[.val (.ref a1), .val (.int p2)] [])
  refine Goes.step (fun _ k => XS.aloadN X1.here hx rfl (hb hby d11_8) rfl rfl k) ?_
  show Goes p e below s _ _ _ T1 (mkF m 9 #[.val (.ref a1), .val (.int p2)] [(.ref a1)])
  refine Goes.step (fun _ k => XS.iloadN X1.here hx rfl (hb hby d11_9) rfl k) ?_
  show Goes p e below s _ _ _ T1 (mkF m 10 #[.val (.ref a1), .val (.int p2)] [(.int p2), (.ref a1)])
  obtain ⟨v2, T2, h2, L2, X2, e2, Q2, st2⟩ := callXV X1 hx hZ (C := "com/example/proxysmith/proxysmith/ClassFileWriter$Bytes") (b := a1) (y := (⟨"com/example/proxysmith/proxysmith/ClassFileWriter$Bytes", "u2", "(I)V"⟩ : MethodName)) (z := (⟨"com/example/proxysmith/proxysmith/ClassFileWriter$Bytes", "u2", "(I)V"⟩ : MethodName)) hown (hw _ (List.mem_of_getElem? (i := 57) rfl)) (hw _ (List.mem_of_getElem? (i := 39) rfl)) (hw _ (List.mem_of_getElem? (i := 41) rfl)) (hw _ (List.mem_of_getElem? (i := 40) rfl)) (hw _ (List.mem_of_getElem? (i := 42) rfl)) (hw _ (List.mem_of_getElem? (i := 2) rfl)) (notFace_of_selects (args := #[]) (mvT hZ (hw _ (List.mem_of_getElem? (i := 41) rfl)))) (by decide) (W := 0) (argsL := [(.int p2)]) (rest := []) (rm8 l Z a0 hw [] a1 p2 b1 n1 (sz + 2) f1 h1 n0 z_1 hE1 hFb1 hFs1 hA1 hab1 ge_a1 hg1 hs1 hn1 (by omega)) (by decide) (by decide) (by decide) (by decide) e1 hE1 (g := (mkF m 10 #[.val (.ref a1), .val (.int p2)] [(.int p2), (.ref a1)])) rfl (by rw [hml]; rfl) (lenOf pd_11_0 rfl) rfl (by show 2 * 0 + _ ≤ _; exact Nat.le_of_eq rfl) (hb hby d11_10)
  obtain ⟨b2, n2, f2, rfl, NQ2, KQ2, hE2, hFb2, hFs2, hA2, hab2, hg2, ho2, hs2, hn2, hf2, hv2, hu2⟩ := Q2
  refine Goes.step st2 ?_
  have hE1_2 := hE1.keep KQ2
  have z_2 : n0 ≤ h2.size := Nat.le_trans z_1 KQ2.1
  have K_2 : Keep h0 h2 [a1, b] := Keep.trans K_1 KQ2 (allS (Or.inl (List.mem_of_getElem? (i := 0) rfl)) (allS mem_b1 all0))
  have N_2 := Fr.app N_1 NQ2
  have mem_b2 : b2 ∈ [a1, b] ∨ h0.size ≤ b2 := ho2.elim (fun q => q ▸ mem_b1) (fun q => Or.inr (Nat.le_trans K_1.1 q))
  show Goes p e below s _ _ _ T2 (mkF m 13 #[.val (.ref a1), .val (.int p2)] [])
  exact Goes.outV X2 hx hlk Bd.returns (hb hby d11_13) (by rw [e2]; exact ⟨b2, n2, f2, rfl, N_2, K_2, hE2, hFb2, hFs2, hA2, hab2, hg2, own_o2 ho1 ho2 K_1, by omega, hn2, fun j hj => (hf2 j (by omega)).trans (hf1 j hj), (hf2 _ (by omega)).trans hv1, (hf2 _ (by omega)).trans hu1, hv2, hu2⟩) (by decide) (by decide)
theorem d9_0 : decode prog_13_method_10_code 0 = .ok (.aload_n 0, 1) := by decide +kernel
theorem d9_1 : decode prog_13_method_10_code 1 = .ok (.getfield 19, 3) := by decide +kernel
theorem d9_4 : decode prog_13_method_10_code 4 = .ok (.aload_n 0, 1) := by decide +kernel
theorem d9_5 : decode prog_13_method_10_code 5 = .ok (.getfield 9, 3) := by decide +kernel
theorem d9_8 : decode prog_13_method_10_code 8 = .ok (.arraylength, 1) := by decide +kernel
theorem d9_9 : decode prog_13_method_10_code 9 = .ok (.if_icmp .ne 10, 3) := by decide +kernel
theorem d9_12 : decode prog_13_method_10_code 12 = .ok (.aload_n 0, 1) := by decide +kernel
theorem d9_13 : decode prog_13_method_10_code 13 = .ok (.getfield 9, 3) := by decide +kernel
theorem d9_16 : decode prog_13_method_10_code 16 = .ok (.goto 14, 3) := by decide +kernel
theorem d9_19 : decode prog_13_method_10_code 19 = .ok (.aload_n 0, 1) := by decide +kernel
theorem d9_20 : decode prog_13_method_10_code 20 = .ok (.getfield 9, 3) := by decide +kernel
theorem d9_23 : decode prog_13_method_10_code 23 = .ok (.aload_n 0, 1) := by decide +kernel
theorem d9_24 : decode prog_13_method_10_code 24 = .ok (.getfield 19, 3) := by decide +kernel
theorem d9_27 : decode prog_13_method_10_code 27 = .ok (.invokestatic 56, 3) := by decide +kernel
theorem d9_30 : decode prog_13_method_10_code 30 = .ok (.areturn, 1) := by decide +kernel
theorem pn_9 : plainName "com/example/proxysmith/proxysmith/ClassFileWriter$Bytes" = true := by first | (simp [plainName, overriddenIn]; done) | decide +kernel
theorem pd_9_0 : parseMethodDescriptor "([BI)[B" = some ⟨[(.array .byte), .int], some (.array .byte)⟩ := by decide +kernel
theorem ef_9 (m : MethodId) (a1 : Addr) : entryFrame m #[(.ref a1)] 1 = mkF m 0 #[.val (.ref a1)] [] := by first | (simp [entryFrame, mkF, argsToLocals, Value.category]; done) | rfl
def Q9 (Z : State) (a1 : Addr) (b : Addr) (n : Nat) (sz : Nat) (f : Nat → Int32) (h0 : Heap) (n0 : Nat) (v : Option Value) (h : Heap) (L : List Loc) : Prop := ∃ r, v = some (.ref r) ∧ Fr n0 L ∧ Keep h0 h [] ∧ ∃ g, Ari Z h r .byte sz g ∧ ∀ j, j < sz → g j = f j
set_option maxRecDepth 65536 in
set_option maxHeartbeats 40000000 in
theorem rm9 (l : Launch) (Z : State) (a0 : Array Value) (hw : ∀ d ∈ tables_1, d.before a0 Z = true) (ws : List Jvm.Cond) (a1 : Addr) (b : Addr) (n : Nat) (sz : Nat) (f : Nat → Int32) (h0 : Heap) (n0 : Nat) (Z0 : n0 ≤ h0.size) (E_a1_0 : Exa Z h0 a1 "com/example/proxysmith/proxysmith/ClassFileWriter$Bytes") (F_a1_bytes_0 : Fld Z h0 a1 "com/example/proxysmith/proxysmith/ClassFileWriter$Bytes" "bytes" "[B" (.ref b)) (F_a1_size_0 : Fld Z h0 a1 "com/example/proxysmith/proxysmith/ClassFileWriter$Bytes" "size" "I" (.int (Int32.ofNat sz))) (A_b_0 : Ari Z h0 b .byte n f) (ne_a1_b : a1 ≠ b) (ge_a1 : n0 ≤ a1) (ge_b : n0 ≤ b) (hsn : sz ≤ n) (hmx : n ≤ 16) (hmo : sz ≤ 12) :
    MetFree l (⟨"com/example/proxysmith/proxysmith/ClassFileWriter$Bytes", "toByteArray", "()[B"⟩ : MethodName) (head1 (Jvm.Cond.code (⟨"com/example/proxysmith/proxysmith/ClassFileWriter$Bytes", "toByteArray", "()[B"⟩ : MethodName) prog_13_method_10_code 1 (some (.array .byte)) :: ws) ({ frames := 2, cells := 1, slots := 12, locals := 54 } : Room)) (fun a U => a = #[(.ref a1)] ∧ Z.Warmed39 U.vm ∧ U.heap = h0) (fun _ _ _ _ _ => True) (fun _ U o U' => ∃ v L, o = .returned v ∧ Q9 Z a1 b n sz f h0 n0 v U'.heap L ∧ FrameEnd U o U' L ({ frames := 2, cells := 1, slots := 12, locals := 54 } : Room).cells ({ frames := 2, cells := 1, slots := 12, locals := 54 } : Room).slots) := by
  refine MetFree.of_bodySF (plainFor_of_name pn_9) hisR ?_
  intro p e s m args below meth c s₁ Bd hml0 hP hK
  obtain ⟨rfl, hZ, hh⟩ := hP
  have hx := Bd.exec
  have hby := Bd.bytes
  have hlk := Bd.notSynchronized
  have hml : c.maxLocals = 1 := hml0
  have hown : s.vm.findClass "com/example/proxysmith/proxysmith/ClassFileWriter$Bytes" = some m.cls := findClass_of_methodNamed Bd.named
  have hnm := (name_of_methodNamed Bd.named Bd.method).1
  have X0 : Stand p l e ({ frames := 2, cells := 1, slots := 12, locals := 54 } : Room) s m #[(.ref a1)] below meth c s₁ [] 0 0 := Stand.of_body Bd
  have e0 : s₁.heap = h0 := by rw [← hh, Bd.state]; rfl
  have N0 := Fr.nil n0
  have K0 : Keep h0 h0 [] := Keep.refl h0 _
  show Goes p e below s ({ frames := 2, cells := 1, slots := 12, locals := 54 } : Room).cells ({ frames := 2, cells := 1, slots := 12, locals := 54 } : Room).slots (Q9 Z a1 b n sz f h0 n0) s₁ (entryFrame m #[(.ref a1)] 1)
  refine Goes.step (fun t k => castTop (ef_9 m a1) k) ?_
  refine Goes.step (fun _ k => XS.aloadN X0.here hx rfl (hb hby d9_0) rfl rfl k) ?_
  show Goes p e below s _ _ _ s₁ (mkF m 1 #[.val (.ref a1)] [(.ref a1)])
  obtain ⟨T1, X1, e1, st1⟩ := getF X0 hx hZ hown (host := "") (Or.inl (hw _ (List.mem_of_getElem? (i := 21) rfl))) Via.refl e0 F_a1_size_0 (g := (mkF m 1 #[.val (.ref a1)] [(.ref a1)])) rfl rfl (hb hby d9_1)
  refine Goes.step st1 ?_
  show Goes p e below s _ _ _ T1 (mkF m 4 #[.val (.ref a1)] [(.int (Int32.ofNat sz))])
  refine Goes.step (fun _ k => XS.aloadN X1.here hx rfl (hb hby d9_4) rfl rfl k) ?_
  show Goes p e below s _ _ _ T1 (mkF m 5 #[.val (.ref a1)] [(.ref a1), (.int (Int32.ofNat sz))])
  obtain ⟨T2, X2, e2, st2⟩ := getF X1 hx hZ hown (host := "") (Or.inl (hw _ (List.mem_of_getElem? (i := 10) rfl))) Via.refl e1 F_a1_bytes_0 (g := (mkF m 5 #[.val (.ref a1)] [(.ref a1), (.int (Int32.ofNat sz))])) rfl rfl (hb hby d9_5)
  refine Goes.step st2 ?_
  show Goes p e below s _ _ _ T2 (mkF m 8 #[.val (.ref a1)] [(.ref b), (.int (Int32.ofNat sz))])
  refine Goes.step (fun _ k => rdL X2 hx hZ e2 A_b_0 (g := (mkF m 8 #[.val (.ref a1)] [(.ref b), (.int (Int32.ofNat sz))])) rfl rfl (hb hby d9_8) _ k) ?_
  show Goes p e below s _ _ _ T2 (mkF m 9 #[.val (.ref a1)] [(.int (Int32.ofNat n)), (.int (Int32.ofNat sz))])
  by_cases hc9 : (Int32.ofNat sz) = (Int32.ofNat n)
  · refine Goes.step (fun _ k => XS.icmpNo X2.here hx rfl (hb hby d9_9) rfl (teq hc9).2 k) ?_
    show Goes p e below s _ _ _ T2 (mkF m 12 #[.val (.ref a1)] [])
    refine Goes.step (fun _ k => XS.aloadN X2.here hx rfl (hb hby d9_12) rfl rfl k) ?_
    show Goes p e below s _ _ _ T2 (mkF m 13 #[.val (.ref a1)] [(.ref a1)])
    obtain ⟨T3, X3, e3, st3⟩ := getF X2 hx hZ hown (host := "") (Or.inl (hw _ (List.mem_of_getElem? (i := 10) rfl))) Via.refl e2 F_a1_bytes_0 (g := (mkF m 13 #[.val (.ref a1)] [(.ref a1)])) rfl rfl (hb hby d9_13)
    refine Goes.step st3 ?_
    show Goes p e below s _ _ _ T3 (mkF m 16 #[.val (.ref a1)] [(.ref b)])
    refine Goes.step (fun _ k => XS.goto X3.here hx rfl (pc0 := 16) (pc' := 30) rfl (hb hby d9_16) (by decide) (by decide) k) ?_
    show Goes p e below s _ _ _ T3 (mkF m 30 #[.val (.ref a1)] [(.ref b)])
    exact Goes.outR X3 hx hlk Bd.returns rfl rfl (hb hby d9_30) (by rw [e3]; exact ⟨b, rfl, N0, K0, f, own_ari hc9 (by omega) (by omega) A_b_0, fun _ _ => rfl⟩) (by decide) (by decide)
  · refine Goes.step (fun _ k => XS.icmpYes X2.here hx rfl (pc0 := 9) (pc' := 19) rfl (hb hby d9_9) rfl (feq hc9).2 (by decide) (by decide) k) ?_
    show Goes p e below s _ _ _ T2 (mkF m 19 #[.val (.ref a1)] [])
    refine Goes.step (fun _ k => XS.aloadN X2.here hx rfl (hb hby d9_19) rfl rfl k) ?_
    show Goes p e below s _ _ _ T2 (mkF m 20 #[.val (.ref a1)] [(.ref a1)])
    obtain ⟨T4, X4, e4, st4⟩ := getF X2 hx hZ hown (host := "") (Or.inl (hw _ (List.mem_of_getElem? (i := 10) rfl))) Via.refl e2 F_a1_bytes_0 (g := (mkF m 20 #[.val (.ref a1)] [(.ref a1)])) rfl rfl (hb hby d9_20)
    refine Goes.step st4 ?_
    show Goes p e below s _ _ _ T4 (mkF m 23 #[.val (.ref a1)] [(.ref b)])
    refine Goes.step (fun _ k => XS.aloadN X4.here hx rfl (hb hby d9_23) rfl rfl k) ?_
    show Goes p e below s _ _ _ T4 (mkF m 24 #[.val (.ref a1)] [(.ref a1), (.ref b)])
    obtain ⟨T5, X5, e5, st5⟩ := getF X4 hx hZ hown (host := "") (Or.inl (hw _ (List.mem_of_getElem? (i := 21) rfl))) Via.refl e4 F_a1_size_0 (g := (mkF m 24 #[.val (.ref a1)] [(.ref a1), (.ref b)])) rfl rfl (hb hby d9_24)
    refine Goes.step st5 ?_
    show Goes p e below s _ _ _ T5 (mkF m 27 #[.val (.ref a1)] [(.int (Int32.ofNat sz)), (.ref b)])
    obtain ⟨v6, T6, h6, L6, X6, e6, Q6, st6⟩ := callX X5 hx hZ (y := (⟨"java/util/Arrays", "copyOf", "([BI)[B"⟩ : MethodName)) hown (hw _ (List.mem_of_getElem? (i := 27) rfl)) (hw _ (List.mem_of_getElem? (i := 28) rfl)) (hw _ (List.mem_of_getElem? (i := 29) rfl)) (hw _ (List.mem_of_getElem? (i := 30) rfl)) (by decide) (W := 0) (argsL := [(.ref b), (.int (Int32.ofNat sz))]) (rest := []) (rm6 l Z a0 hw [] b sz n f h0 n0 Z0 A_b_0 (fun q => hc9 (by rw [q])) (by omega) hmx) (by decide) (by decide) (by decide) (by decide) e5 (g := (mkF m 27 #[.val (.ref a1)] [(.int (Int32.ofNat sz)), (.ref b)])) rfl (by rw [hml]; rfl) (lenOf pd_9_0 rfl) rfl (by show 2 * 0 + _ ≤ _; exact Nat.le_of_eq rfl) (hb hby d9_27)
    obtain ⟨o6, rfl, NQ6, KQ6, so6, Ao6⟩ := Q6
    refine Goes.step st6 ?_
    have E_a1_6 := E_a1_0.keep KQ6
    have F_a1_bytes_6 := F_a1_bytes_0.keep KQ6 nin0
    have F_a1_size_6 := F_a1_size_0.keep KQ6 nin0
    have A_b_6 := A_b_0.keep KQ6 nin0
    have z_6 : n0 ≤ h6.size := Nat.le_trans Z0 KQ6.1
    have K_6 : Keep h0 h6 [] := Keep.trans K0 KQ6 all0
    have N_6 := Fr.app N0 NQ6
    have ne_b_o6 : b ≠ o6 := Nat.ne_of_lt (Nat.lt_of_lt_of_le A_b_0.lt so6)
    have ne_a1_o6 : a1 ≠ o6 := Nat.ne_of_lt (Nat.lt_of_lt_of_le E_a1_0.lt so6)
    have ge_o6 : n0 ≤ o6 := Nat.le_trans Z0 so6
    show Goes p e below s _ _ _ T6 (mkF m 30 #[.val (.ref a1)] [(.ref o6)])
    exact Goes.outR X6 hx hlk Bd.returns rfl rfl (hb hby d9_30) (by rw [e6]; exact ⟨o6, rfl, N_6, K_6, _, Ao6, own_keepf f hsn⟩) (by decide) (by decide)
theorem d1_0 : decode prog_13_method_1_code 0 = .ok (.aload_n 0, 1) := by decide +kernel
theorem d1_1 : decode prog_13_method_1_code 1 = .ok (.invokespecial 3, 3) := by decide +kernel
theorem d1_4 : decode prog_13_method_1_code 4 = .ok (.aload_n 0, 1) := by decide +kernel
theorem d1_5 : decode prog_13_method_1_code 5 = .ok (.iload_n 1, 1) := by decide +kernel
theorem d1_6 : decode prog_13_method_1_code 6 = .ok (.newarray .byte, 2) := by decide +kernel
theorem d1_8 : decode prog_13_method_1_code 8 = .ok (.putfield 9, 3) := by decide +kernel
theorem d1_11 : decode prog_13_method_1_code 11 = .ok (.return_, 1) := by decide +kernel
theorem pn_1 : plainName "com/example/proxysmith/proxysmith/ClassFileWriter$Bytes" = true := by first | (simp [plainName, overriddenIn]; done) | decide +kernel
theorem ef_1 (m : MethodId) (a1 : Addr) : entryFrame m #[(.ref a1), (.int (Int32.ofNat n))] 2 = mkF m 0 #[.val (.ref a1), .val (.int (Int32.ofNat n))] [] := by first | (simp [entryFrame, mkF, argsToLocals, Value.category]; done) | rfl
def Q1 (Z : State) (a1 : Addr) (n : Nat) (h0 : Heap) (n0 : Nat) (v : Option Value) (h : Heap) (L : List Loc) : Prop := ∃ b, v = none ∧ Fr n0 L ∧ Keep h0 h [a1] ∧ Exa Z h a1 "com/example/proxysmith/proxysmith/ClassFileWriter$Bytes" ∧ Fld Z h a1 "com/example/proxysmith/proxysmith/ClassFileWriter$Bytes" "bytes" "[B" (.ref b) ∧ Fld Z h a1 "com/example/proxysmith/proxysmith/ClassFileWriter$Bytes" "size" "I" (.int (Int32.ofNat 0)) ∧ Ari Z h b .byte n (fun _ => 0) ∧ a1 ≠ b ∧ n0 ≤ b ∧ h0.size ≤ b
set_option maxRecDepth 65536 in
set_option maxHeartbeats 40000000 in
theorem rm1 (l : Launch) (Z : State) (a0 : Array Value) (hw : ∀ d ∈ tables_1, d.before a0 Z = true) (ws : List Jvm.Cond) (a1 : Addr) (n : Nat) (h0 : Heap) (n0 : Nat) (Z0 : n0 ≤ h0.size) (E_a1_0 : Exa Z h0 a1 "com/example/proxysmith/proxysmith/ClassFileWriter$Bytes") (F_a1_bytes_0 : Fld Z h0 a1 "com/example/proxysmith/proxysmith/ClassFileWriter$Bytes" "bytes" "[B" .null) (F_a1_size_0 : Fld Z h0 a1 "com/example/proxysmith/proxysmith/ClassFileWriter$Bytes" "size" "I" (.int (0 : Int32))) (ge_a1 : n0 ≤ a1) (hn : n ≤ 8) :
    MetFree l (⟨"com/example/proxysmith/proxysmith/ClassFileWriter$Bytes", "<init>", "(I)V"⟩ : MethodName) (head1 (Jvm.Cond.code (⟨"com/example/proxysmith/proxysmith/ClassFileWriter$Bytes", "<init>", "(I)V"⟩ : MethodName) prog_13_method_1_code 2 none :: ws) ({ frames := 1, cells := 1, slots := 8, locals := 12 } : Room)) (fun a U => a = #[(.ref a1), (.int (Int32.ofNat n))] ∧ Z.Warmed39 U.vm ∧ U.heap = h0) (fun _ _ _ _ _ => True) (fun _ U o U' => ∃ v L, o = .returned v ∧ Q1 Z a1 n h0 n0 v U'.heap L ∧ FrameEnd U o U' L ({ frames := 1, cells := 1, slots := 8, locals := 12 } : Room).cells ({ frames := 1, cells := 1, slots := 8, locals := 12 } : Room).slots) := by
  refine MetFree.of_bodySF (plainFor_of_name pn_1) hisR ?_
  intro p e s m args below meth c s₁ Bd hml0 hP hK
  obtain ⟨rfl, hZ, hh⟩ := hP
  have hx := Bd.exec
  have hby := Bd.bytes
  have hlk := Bd.notSynchronized
  have hml : c.maxLocals = 2 := hml0
  have hown : s.vm.findClass "com/example/proxysmith/proxysmith/ClassFileWriter$Bytes" = some m.cls := findClass_of_methodNamed Bd.named
  have hnm := (name_of_methodNamed Bd.named Bd.method).1
  have X0 : Stand p l e ({ frames := 1, cells := 1, slots := 8, locals := 12 } : Room) s m #[(.ref a1), (.int (Int32.ofNat n))] below meth c s₁ [] 0 0 := Stand.of_body Bd
  have e0 : s₁.heap = h0 := by rw [← hh, Bd.state]; rfl
  have N0 := Fr.nil n0
  have K0 : Keep h0 h0 [a1] := Keep.refl h0 _
  show Goes p e below s ({ frames := 1, cells := 1, slots := 8, locals := 12 } : Room).cells ({ frames := 1, cells := 1, slots := 8, locals := 12 } : Room).slots (Q1 Z a1 n h0 n0) s₁ (entryFrame m #[(.ref a1), (.int (Int32.ofNat n))] 2)
  refine Goes.step (fun t k => castTop (ef_1 m a1) k) ?_
  refine Goes.step (fun _ k => XS.aloadN X0.here hx rfl (hb hby d1_0) rfl rfl k) ?_
  show Goes p e below s _ _ _ s₁ (mkF m 1 #[.val (.ref a1), .val (.int (Int32.ofNat n))] [(.ref a1)])
  obtain ⟨T1, X1, e1, st1⟩ := initO X0 hx hZ hown (hw _ (List.mem_of_getElem? (i := 6) rfl)) (hw _ (List.mem_of_getElem? (i := 7) rfl)) (hw _ (List.mem_of_getElem? (i := 8) rfl)) e0 (g := (mkF m 1 #[.val (.ref a1), .val (.int (Int32.ofNat n))] [(.ref a1)])) rfl (by rw [hml]; rfl) rfl (hb hby d1_1) (by decide) (W := 0) (by show 2 * 0 + _ ≤ _; exact Nat.le_of_eq rfl) (by decide)
  refine Goes.step st1 ?_
  show Goes p e below s _ _ _ T1 (mkF m 4 #[.val (.ref a1), .val (.int (Int32.ofNat n))] [])
  refine Goes.step (fun _ k => XS.aloadN X1.here hx rfl (hb hby d1_4) rfl rfl k) ?_
  show Goes p e below s _ _ _ T1 (mkF m 5 #[.val (.ref a1), .val (.int (Int32.ofNat n))] [(.ref a1)])
  refine Goes.step (fun _ k => XS.iloadN X1.here hx rfl (hb hby d1_5) rfl k) ?_
  show Goes p e below s _ _ _ T1 (mkF m 6 #[.val (.ref a1), .val (.int (Int32.ofNat n))] [(.int (Int32.ofNat n)), (.ref a1)])
  obtain ⟨T2, h2, X2, e2, E2, A2, st2⟩ := newI X1 hx hZ (hw _ (List.mem_of_getElem? (i := 9) rfl)) e1 (g := (mkF m 6 #[.val (.ref a1), .val (.int (Int32.ofNat n))] [(.int (Int32.ofNat n)), (.ref a1)])) rfl (hb hby d1_6) rfl (N := n) rfl (cap := 8) hn (by decide) (by decide) (by decide) rfl (by decide)
  obtain ⟨b2, g_2⟩ : ∃ z, z = h0.size := ⟨_, rfl⟩
  rw [← g_2] at A2 st2
  refine Goes.step st2 ?_
  have ne_a1_b2 : a1 ≠ b2 := Nat.ne_of_lt (by rw [g_2]; exact E_a1_0.lt)
  have ge_b2 : n0 ≤ b2 := by rw [g_2]; exact Z0
  have sz_b2 : h0.size ≤ b2 := by rw [g_2]; exact K0.1
  have E_a1_2 := E_a1_0.ext E2
  have F_a1_bytes_2 := F_a1_bytes_0.ext E2
  have F_a1_size_2 := F_a1_size_0.ext E2
  have z_2 : n0 ≤ h2.size := Nat.le_trans Z0 E2.1
  have K_2 : Keep h0 h2 [a1] := K0.ext E2
  have A_b2_2 : Ari Z h2 b2 .byte (n) (fun _ => 0) := A2
  show Goes p e below s _ _ _ T2 (mkF m 8 #[.val (.ref a1), .val (.int (Int32.ofNat n))] [(.ref b2), (.ref a1)])
  obtain ⟨T3, h3, X3, e3, W3, st3⟩ := putF X2 hx hZ hown (host := "") (Or.inl (hw _ (List.mem_of_getElem? (i := 10) rfl))) Via.refl e2 F_a1_bytes_2 E_a1_2 (Or.inl (hw _ (List.mem_of_getElem? (i := 11) rfl))) (hw _ (List.mem_of_getElem? (i := 1) rfl)) (ty := (.array .byte)) (by decide) rfl rfl (g := (mkF m 8 #[.val (.ref a1), .val (.int (Int32.ofNat n))] [(.ref b2), (.ref a1)])) rfl rfl (hb hby d1_8)
  refine Goes.step st3 ?_
  have E_a1_3 := E_a1_2.wr W3
  have F_a1_size_3 := F_a1_size_2.other W3 (Or.inr (slot_ne (Or.inl (hw _ (List.mem_of_getElem? (i := 22) rfl))) (Or.inl (hw _ (List.mem_of_getElem? (i := 11) rfl))) (by decide) (t := .int) (t' := (.array .byte)) (by decide) (by decide)))
  have A_b2_3 := A_b2_2.other W3 (Ne.symm ne_a1_b2)
  have z_3 : n0 ≤ h3.size := by rw [W3.size]; exact z_2
  have K_3 : Keep h0 h3 [a1] := K_2.wr W3 (Or.inl (List.mem_of_getElem? (i := 0) rfl))
  have N_3 := Fr.snoc X3 N0 ge_a1
  have F_a1_bytes_3 : Fld Z h3 a1 "com/example/proxysmith/proxysmith/ClassFileWriter$Bytes" "bytes" "[B" (.ref b2) := F_a1_bytes_2.same W3
  show Goes p e below s _ _ _ T3 (mkF m 11 #[.val (.ref a1), .val (.int (Int32.ofNat n))] [])
  exact Goes.outV X3 hx hlk Bd.returns (hb hby d1_11) (by rw [e3]; exact ⟨b2, rfl, N_3, K_3, E_a1_3, F_a1_bytes_3, F_a1_size_3, A_b2_3, ne_a1_b2, ge_b2, sz_b2⟩) (by decide) (by decide)
theorem d10_0 : decode method_2_code 0 = .ok (.iload_n 3, 1) := by decide +kernel
theorem d10_1 : decode method_2_code 1 = .ok (.iload_n 2, 1) := by decide +kernel
theorem d10_10 : decode method_2_code 10 = .ok (.baload, 1) := by decide +kernel
theorem d10_11 : decode method_2_code 11 = .ok (.if_icmp .ne 7, 3) := by decide +kernel
theorem d10_14 : decode method_2_code 14 = .ok (.iconst 1, 1) := by decide +kernel
theorem d10_15 : decode method_2_code 15 = .ok (.goto 4, 3) := by decide +kernel
theorem d10_19 : decode method_2_code 19 = .ok (.ireturn, 1) := by decide +kernel
theorem d10_2 : decode method_2_code 2 = .ok (.if_icmp .ge 12, 3) := by decide +kernel
theorem d10_5 : decode method_2_code 5 = .ok (.aload_n 0, 1) := by decide +kernel
theorem d10_6 : decode method_2_code 6 = .ok (.iload_n 3, 1) := by decide +kernel
theorem d10_7 : decode method_2_code 7 = .ok (.baload, 1) := by decide +kernel
theorem d10_8 : decode method_2_code 8 = .ok (.aload_n 1, 1) := by decide +kernel
theorem d10_9 : decode method_2_code 9 = .ok (.iload_n 3, 1) := by decide +kernel
theorem pn_10 : plainName "com/example/proxysmith/proxysmith/BytesToByteArrayPinLaw" = true := by first | (simp [plainName, overriddenIn]; done) | decide +kernel
theorem ef_10a (m : MethodId) (a1 : Addr) (a2 : Addr) (p3 : Int32) (p4 : Int32) : entryFrame m #[(.ref a1), (.ref a2), (.int p3), (.int p4)] 4 = mkF m 0 #[.val (.ref a1), .val (.ref a2), .val (.int p3), .val (.int p4)] [] := by first | (simp [entryFrame, mkF, argsToLocals, Value.category]; done) | rfl
def Q10a (Z : State) (a1 : Addr) (a2 : Addr) (p3 : Int32) (p4 : Int32)  (h0 : Heap) (n0 : Nat) (v : Option Value) (h : Heap) (L : List Loc) : Prop := PV h0 (.int (1 : Int32)) v h L
set_option maxRecDepth 65536 in
set_option maxHeartbeats 40000000 in
theorem rm10a (l : Launch) (Z : State) (a0 : Array Value) (hw : ∀ d ∈ tables_1, d.before a0 Z = true) (ws : List Jvm.Cond) (a1 : Addr) (a2 : Addr) (p3 : Int32) (p4 : Int32)  (h0 : Heap) (n0 : Nat) (Z0 : n0 ≤ h0.size) (hge : ¬ p4 < p3) :
    MetFree l (⟨"com/example/proxysmith/proxysmith/BytesToByteArrayPinLaw", "same", "([B[BII)Z"⟩ : MethodName) (head1 (Jvm.Cond.code (⟨"com/example/proxysmith/proxysmith/BytesToByteArrayPinLaw", "same", "([B[BII)Z"⟩ : MethodName) method_2_code 4 (some .boolean) :: ws) ({ frames := 0, cells := 0, slots := 0, locals := 0 } : Room)) (fun a U => a = #[(.ref a1), (.ref a2), (.int p3), (.int p4)] ∧ Z.Warmed39 U.vm ∧ U.heap = h0) (fun _ _ _ _ _ => True) (fun _ U o U' => ∃ v L, o = .returned v ∧ Q10a Z a1 a2 p3 p4 h0 n0 v U'.heap L ∧ FrameEnd U o U' L ({ frames := 0, cells := 0, slots := 0, locals := 0 } : Room).cells ({ frames := 0, cells := 0, slots := 0, locals := 0 } : Room).slots) := by
  refine MetFree.of_bodySF (plainFor_of_name pn_10) hisR ?_
  intro p e s m args below meth c s₁ Bd hml0 hP hK
  obtain ⟨rfl, hZ, hh⟩ := hP
  have hx := Bd.exec
  have hby := Bd.bytes
  have hlk := Bd.notSynchronized
  have hml : c.maxLocals = 4 := hml0
  have hown : s.vm.findClass "com/example/proxysmith/proxysmith/BytesToByteArrayPinLaw" = some m.cls := findClass_of_methodNamed Bd.named
  have hnm := (name_of_methodNamed Bd.named Bd.method).1
  have X0 : Stand p l e ({ frames := 0, cells := 0, slots := 0, locals := 0 } : Room) s m #[(.ref a1), (.ref a2), (.int p3), (.int p4)] below meth c s₁ [] 0 0 := Stand.of_body Bd
  have e0 : s₁.heap = h0 := by rw [← hh, Bd.state]; rfl
  have N0 := Fr.nil n0
  have K0 : Keep h0 h0 [] := Keep.refl h0 _
  show Goes p e below s ({ frames := 0, cells := 0, slots := 0, locals := 0 } : Room).cells ({ frames := 0, cells := 0, slots := 0, locals := 0 } : Room).slots (Q10a Z a1 a2 p3 p4 h0 n0) s₁ (entryFrame m #[(.ref a1), (.ref a2), (.int p3), (.int p4)] 4)
  refine Goes.step (fun t k => castTop (ef_10a m a1 a2 p3 p4) k) ?_
  refine Goes.step (fun _ k => XS.iloadN X0.here hx rfl (hb hby d10_0) rfl k) ?_
  show Goes p e below s _ _ _ s₁ (mkF m 1 #[.val (.ref a1), .val (.ref a2), .val (.int p3), .val (.int p4)] [(.int p4)])
  refine Goes.step (fun _ k => XS.iloadN X0.here hx rfl (hb hby d10_1) rfl k) ?_
  show Goes p e below s _ _ _ s₁ (mkF m 2 #[.val (.ref a1), .val (.ref a2), .val (.int p3), .val (.int p4)] [(.int p3), (.int p4)])
  refine Goes.step (fun _ k => XS.icmpYes X0.here hx rfl (pc0 := 2) (pc' := 14) rfl (hb hby d10_2) rfl (flt hge).2.1 (by decide) (by decide) k) ?_
  show Goes p e below s _ _ _ s₁ (mkF m 14 #[.val (.ref a1), .val (.ref a2), .val (.int p3), .val (.int p4)] [])
  refine Goes.step (fun _ k => XS.iconst X0.here hx rfl (hb hby d10_14) k) ?_
  show Goes p e below s _ _ _ s₁ (mkF m 15 #[.val (.ref a1), .val (.ref a2), .val (.int p3), .val (.int p4)] [(.int (1 : Int32))])
  refine Goes.step (fun _ k => XS.goto X0.here hx rfl (pc0 := 15) (pc' := 19) rfl (hb hby d10_15) (by decide) (by decide) k) ?_
  show Goes p e below s _ _ _ s₁ (mkF m 19 #[.val (.ref a1), .val (.ref a2), .val (.int p3), .val (.int p4)] [(.int (1 : Int32))])
  exact Goes.outN X0 hx hlk (t := .boolean) Bd.returns (by simp) (hb hby d10_19) ⟨rfl, rfl, e0⟩ (by decide) (by decide)

theorem ef_10b (m : MethodId) (a1 : Addr) (a2 : Addr) (p3 : Int32) (p4 : Int32) : entryFrame m #[(.ref a1), (.ref a2), (.int p3), (.int p4)] 4 = mkF m 0 #[.val (.ref a1), .val (.ref a2), .val (.int p3), .val (.int p4)] [] := by first | (simp [entryFrame, mkF, argsToLocals, Value.category]; done) | rfl
def Q10b (Z : State) (a1 : Addr) (a2 : Addr) (p3 : Int32) (p4 : Int32) (i : Nat) (n : Nat) (N : Nat) (f : Nat → Int32) (g : Nat → Int32) (h0 : Heap) (n0 : Nat) (v : Option Value) (h : Heap) (L : List Loc) : Prop := PV h0 (.int (1 : Int32)) v h L
set_option maxRecDepth 65536 in
set_option maxHeartbeats 40000000 in
theorem rm10b (l : Launch) (Z : State) (a0 : Array Value) (hw : ∀ d ∈ tables_1, d.before a0 Z = true) (ws : List Jvm.Cond) (a1 : Addr) (a2 : Addr) (p3 : Int32) (p4 : Int32) (i : Nat) (n : Nat) (N : Nat) (f : Nat → Int32) (g : Nat → Int32) (h0 : Heap) (n0 : Nat) (Z0 : n0 ≤ h0.size) (hlt : p4 < p3) (hi : p4 = Int32.ofNat i) (A_a1_0 : Ari Z h0 a1 .byte n f) (A_a2_0 : Ari Z h0 a2 .byte N g) (h1 : i < n) (h2 : i < N) (hfg : f i = g i) :
    MetFree l (⟨"com/example/proxysmith/proxysmith/BytesToByteArrayPinLaw", "same", "([B[BII)Z"⟩ : MethodName) (head1 (Jvm.Cond.code (⟨"com/example/proxysmith/proxysmith/BytesToByteArrayPinLaw", "same", "([B[BII)Z"⟩ : MethodName) method_2_code 4 (some .boolean) :: ws) ({ frames := 0, cells := 0, slots := 0, locals := 0 } : Room)) (fun a U => a = #[(.ref a1), (.ref a2), (.int p3), (.int p4)] ∧ Z.Warmed39 U.vm ∧ U.heap = h0) (fun _ _ _ _ _ => True) (fun _ U o U' => ∃ v L, o = .returned v ∧ Q10b Z a1 a2 p3 p4 i n N f g h0 n0 v U'.heap L ∧ FrameEnd U o U' L ({ frames := 0, cells := 0, slots := 0, locals := 0 } : Room).cells ({ frames := 0, cells := 0, slots := 0, locals := 0 } : Room).slots) := by
  refine MetFree.of_bodySF (plainFor_of_name pn_10) hisR ?_
  intro p e s m args below meth c s₁ Bd hml0 hP hK
  obtain ⟨rfl, hZ, hh⟩ := hP
  have hx := Bd.exec
  have hby := Bd.bytes
  have hlk := Bd.notSynchronized
  have hml : c.maxLocals = 4 := hml0
  have hown : s.vm.findClass "com/example/proxysmith/proxysmith/BytesToByteArrayPinLaw" = some m.cls := findClass_of_methodNamed Bd.named
  have hnm := (name_of_methodNamed Bd.named Bd.method).1
  have X0 : Stand p l e ({ frames := 0, cells := 0, slots := 0, locals := 0 } : Room) s m #[(.ref a1), (.ref a2), (.int p3), (.int p4)] below meth c s₁ [] 0 0 := Stand.of_body Bd
  have e0 : s₁.heap = h0 := by rw [← hh, Bd.state]; rfl
  have N0 := Fr.nil n0
  have K0 : Keep h0 h0 [] := Keep.refl h0 _
  show Goes p e below s ({ frames := 0, cells := 0, slots := 0, locals := 0 } : Room).cells ({ frames := 0, cells := 0, slots := 0, locals := 0 } : Room).slots (Q10b Z a1 a2 p3 p4 i n N f g h0 n0) s₁ (entryFrame m #[(.ref a1), (.ref a2), (.int p3), (.int p4)] 4)
  refine Goes.step (fun t k => castTop (ef_10b m a1 a2 p3 p4) k) ?_
  refine Goes.step (fun _ k => XS.iloadN X0.here hx rfl (hb hby d10_0) rfl k) ?_
  show Goes p e below s _ _ _ s₁ (mkF m 1 #[.val (.ref a1), .val (.ref a2), .val (.int p3), .val (.int p4)] [(.int p4)])
  refine Goes.step (fun _ k => XS.iloadN X0.here hx rfl (hb hby d10_1) rfl k) ?_
  show Goes p e below s _ _ _ s₁ (mkF m 2 #[.val (.ref a1), .val (.ref a2), .val (.int p3), .val (.int p4)] [(.int p3), (.int p4)])
  refine Goes.step (fun _ k => XS.icmpNo X0.here hx rfl (hb hby d10_2) rfl (tlt hlt).2.1 k) ?_
  show Goes p e below s _ _ _ s₁ (mkF m 5 #[.val (.ref a1), .val (.ref a2), .val (.int p3), .val (.int p4)] [])
  refine Goes.step (fun _ k => XS.aloadN X0.here hx rfl (hb hby d10_5) rfl rfl k) ?_
  show Goes p e below s _ _ _ s₁ (mkF m 6 #[.val (.ref a1), .val (.ref a2), .val (.int p3), .val (.int p4)] [(.ref a1)])
  refine Goes.step (fun _ k => XS.iloadN X0.here hx rfl (hb hby d10_6) rfl k) ?_
  show Goes p e below s _ _ _ s₁ (mkF m 7 #[.val (.ref a1), .val (.ref a2), .val (.int p3), .val (.int p4)] [(.int p4), (.ref a1)])
  refine Goes.step (fun _ k => rdB X0 hx hZ e0 A_a1_0 (i) hi h1 (g := (mkF m 7 #[.val (.ref a1), .val (.ref a2), .val (.int p3), .val (.int p4)] [(.int p4), (.ref a1)])) rfl rfl (hb hby d10_7) _ k) ?_
  show Goes p e below s _ _ _ s₁ (mkF m 8 #[.val (.ref a1), .val (.ref a2), .val (.int p3), .val (.int p4)] [(.int (f (i)))])
  refine Goes.step (fun _ k => XS.aloadN X0.here hx rfl (hb hby d10_8) rfl rfl k) ?_
  show Goes p e below s _ _ _ s₁ (mkF m 9 #[.val (.ref a1), .val (.ref a2), .val (.int p3), .val (.int p4)] [(.ref a2), (.int (f (i)))])
  refine Goes.step (fun _ k => XS.iloadN X0.here hx rfl (hb hby d10_9) rfl k) ?_
  show Goes p e below s _ _ _ s₁ (mkF m 10 #[.val (.ref a1), .val (.ref a2), .val (.int p3), .val (.int p4)] [(.int p4), (.ref a2), (.int (f (i)))])
  refine Goes.step (fun _ k => rdB X0 hx hZ e0 A_a2_0 (i) hi h2 (g := (mkF m 10 #[.val (.ref a1), .val (.ref a2), .val (.int p3), .val (.int p4)] [(.int p4), (.ref a2), (.int (f (i)))])) rfl rfl (hb hby d10_10) _ k) ?_
  show Goes p e below s _ _ _ s₁ (mkF m 11 #[.val (.ref a1), .val (.ref a2), .val (.int p3), .val (.int p4)] [(.int (g (i))), (.int (f (i)))])
  refine Goes.step (fun _ k => XS.icmpNo X0.here hx rfl (hb hby d10_11) rfl (teq hfg).2 k) ?_
  show Goes p e below s _ _ _ s₁ (mkF m 14 #[.val (.ref a1), .val (.ref a2), .val (.int p3), .val (.int p4)] [])
  refine Goes.step (fun _ k => XS.iconst X0.here hx rfl (hb hby d10_14) k) ?_
  show Goes p e below s _ _ _ s₁ (mkF m 15 #[.val (.ref a1), .val (.ref a2), .val (.int p3), .val (.int p4)] [(.int (1 : Int32))])
  refine Goes.step (fun _ k => XS.goto X0.here hx rfl (pc0 := 15) (pc' := 19) rfl (hb hby d10_15) (by decide) (by decide) k) ?_
  show Goes p e below s _ _ _ s₁ (mkF m 19 #[.val (.ref a1), .val (.ref a2), .val (.int p3), .val (.int p4)] [(.int (1 : Int32))])
  exact Goes.outN X0 hx hlk (t := .boolean) Bd.returns (by simp) (hb hby d10_19) ⟨rfl, rfl, e0⟩ (by decide) (by decide)

theorem own_7 (p : Int32) : ∃ n : Nat, n ≤ 8 ∧ (p &&& (7 : Int32)) = Int32.ofNat n := by
  have e := c_mask p 7 3 (by decide) (by decide)
  generalize p &&& (7 : Int32) = c at *
  refine ⟨c.toInt.toNat, by omega, ?_⟩
  apply Int32.toInt_inj.mp
  rw [Int32.toInt_ofNat_of_lt (by omega)]; omega
theorem own_24 (x : Int32) : ((((x.toUInt32 >>> ((16 : Int32) &&& 31).toUInt32).toInt32).toUInt32 >>> ((8 : Int32) &&& 31).toUInt32).toInt32).toInt8.toInt32 = (((x.toUInt32 >>> ((24 : Int32) &&& 31).toUInt32).toInt32).toInt8.toInt32).toInt8.toInt32 := by
  rw [own_BB]
  have e : (((x.toUInt32 >>> ((16 : Int32) &&& 31).toUInt32).toInt32).toUInt32 >>> ((8 : Int32) &&& 31).toUInt32).toInt32 = (x.toUInt32 >>> ((24 : Int32) &&& 31).toUInt32).toInt32 := ?_
  · rw [e]
  apply Int32.toInt_inj.mp
  rw [c_iushr _ 8 8 (by decide) (by decide), c_iushr x 16 16 (by decide) (by decide), c_iushr x 24 24 (by decide) (by decide)]
  simp only [Nat.reducePow]
  omega
theorem pn_0 : plainName "com/example/proxysmith/proxysmith/BytesToByteArrayPinLaw" = true := by first | (simp [plainName, overriddenIn]; done) | decide +kernel
theorem pd_0_0 : parseMethodDescriptor "(I)V" = some ⟨[.int], none⟩ := by decide +kernel
theorem pd_0_1 : parseMethodDescriptor "()[B" = some ⟨[], some (.array .byte)⟩ := by decide +kernel
theorem pd_0_2 : parseMethodDescriptor "([B[BII)Z" = some ⟨[(.array .byte), (.array .byte), .int, .int], some .boolean⟩ := by decide +kernel
theorem ef_0 (m : MethodId) (p1 : Int32) (p2 : Int32) (p3 : Int32) (p4 : Int32) (p5 : Int32) : entryFrame m #[(.int p1), (.int p2), (.int p3), (.int p4), (.int p5)] maxLocals = mkF m 0 #[.val (.int p1), .val (.int p2), .val (.int p3), .val (.int p4), .val (.int p5), .unset, .unset, .unset, .unset, .unset, .unset, .unset, .unset] [] := by first | (simp [entryFrame, mkF, argsToLocals, Value.category, maxLocals]; done) | rfl
def Q0 (Z : State) (p1 : Int32) (p2 : Int32) (p3 : Int32) (p4 : Int32) (p5 : Int32)  (h0 : Heap) (n0 : Nat) (v : Option Value) (h : Heap) (L : List Loc) : Prop := v = some (.int (1 : Int32)) ∧ Fr n0 L
set_option maxRecDepth 65536 in
set_option maxHeartbeats 40000000 in
theorem rm0 (l : Launch) (Z : State) (a0 : Array Value) (hw : ∀ d ∈ tables_1, d.before a0 Z = true) (ws : List Jvm.Cond) (p1 : Int32) (p2 : Int32) (p3 : Int32) (p4 : Int32) (p5 : Int32)  (h0 : Heap) (n0 : Nat) (Z0 : n0 ≤ h0.size)  :
    MetFree l x (head1 (Jvm.Cond.code x code maxLocals ret :: ws) room_1) (fun a U => a = #[(.int p1), (.int p2), (.int p3), (.int p4), (.int p5)] ∧ Z.Warmed39 U.vm ∧ U.heap = h0) (fun _ _ _ _ _ => True) (fun _ U o U' => ∃ v L, o = .returned v ∧ Q0 Z p1 p2 p3 p4 p5 h0 n0 v U'.heap L ∧ FrameEnd U o U' L room_1.cells room_1.slots) := by
  refine MetFree.of_bodySF (plainFor_of_name pn_0) hisR ?_
  intro p e s m args below meth c s₁ Bd hml0 hP hK
  obtain ⟨rfl, hZ, hh⟩ := hP
  have hx := Bd.exec
  have hby := Bd.bytes
  have hlk := Bd.notSynchronized
  have hml : c.maxLocals = 13 := hml0
  have hown : s.vm.findClass "com/example/proxysmith/proxysmith/BytesToByteArrayPinLaw" = some m.cls := findClass_of_methodNamed Bd.named
  have hnm := (name_of_methodNamed Bd.named Bd.method).1
  have X0 : Stand p l e room_1 s m #[(.int p1), (.int p2), (.int p3), (.int p4), (.int p5)] below meth c s₁ [] 0 0 := Stand.of_body Bd
  have e0 : s₁.heap = h0 := by rw [← hh, Bd.state]; rfl
  have N0 := Fr.nil n0
  have K0 : Keep h0 h0 [] := Keep.refl h0 _
  show Goes p e below s room_1.cells room_1.slots (Q0 Z p1 p2 p3 p4 p5 h0 n0) s₁ (entryFrame m #[(.int p1), (.int p2), (.int p3), (.int p4), (.int p5)] maxLocals)
  refine Goes.step (fun t k => castTop (ef_0 m p1 p2 p3 p4 p5) k) ?_
  refine Goes.step (fun _ k => XS.iloadN X0.here hx rfl (hb hby at_0) rfl k) ?_
  show Goes p e below s _ _ _ s₁ (mkF m 1 #[.val (.int p1), .val (.int p2), .val (.int p3), .val (.int p4), .val (.int p5), .unset, .unset, .unset, .unset, .unset, .unset, .unset, .unset] [(.int p1)])
  refine Goes.step (fun _ k => XS.bipush X0.here hx rfl (hb hby at_1) k) ?_
  show Goes p e below s _ _ _ s₁ (mkF m 3 #[.val (.int p1), .val (.int p2), .val (.int p3), .val (.int p4), .val (.int p5), .unset, .unset, .unset, .unset, .unset, .unset, .unset, .unset] [(.int (7 : Int32)), (.int p1)])
  refine Goes.step (fun _ k => XS.iand X0.here hx rfl (hb hby at_3) rfl k) ?_
  show Goes p e below s _ _ _ s₁ (mkF m 4 #[.val (.int p1), .val (.int p2), .val (.int p3), .val (.int p4), .val (.int p5), .unset, .unset, .unset, .unset, .unset, .unset, .unset, .unset] [(.int (p1 &&& (7 : Int32)))])
  obtain ⟨n, hn, en⟩ := own_7 p1
  rw [en]
  refine Goes.step (fun _ k => XS.istore X0.here hx rfl (hb hby at_4) rfl (l' := #[.val (.int p1), .val (.int p2), .val (.int p3), .val (.int p4), .val (.int p5), .val (.int (Int32.ofNat n)), .unset, .unset, .unset, .unset, .unset, .unset, .unset]) rfl k) ?_
  show Goes p e below s _ _ _ s₁ (mkF m 6 #[.val (.int p1), .val (.int p2), .val (.int p3), .val (.int p4), .val (.int p5), .val (.int (Int32.ofNat n)), .unset, .unset, .unset, .unset, .unset, .unset, .unset] [])
  refine Goes.step (fun _ k => XS.iloadN X0.here hx rfl (hb hby at_6) rfl k) ?_
  show Goes p e below s _ _ _ s₁ (mkF m 7 #[.val (.int p1), .val (.int p2), .val (.int p3), .val (.int p4), .val (.int p5), .val (.int (Int32.ofNat n)), .unset, .unset, .unset, .unset, .unset, .unset, .unset] [(.int p2)])
  refine Goes.step (fun _ k => XS.iconst X0.here hx rfl (hb hby at_7) k) ?_
  show Goes p e below s _ _ _ s₁ (mkF m 8 #[.val (.int p1), .val (.int p2), .val (.int p3), .val (.int p4), .val (.int p5), .val (.int (Int32.ofNat n)), .unset, .unset, .unset, .unset, .unset, .unset, .unset] [(.int (1 : Int32)), (.int p2)])
  refine Goes.step (fun _ k => XS.iand X0.here hx rfl (hb hby at_8) rfl k) ?_
  show Goes p e below s _ _ _ s₁ (mkF m 9 #[.val (.int p1), .val (.int p2), .val (.int p3), .val (.int p4), .val (.int p5), .val (.int (Int32.ofNat n)), .unset, .unset, .unset, .unset, .unset, .unset, .unset] [(.int (p2 &&& (1 : Int32)))])
  by_cases hc9 : (p2 &&& (1 : Int32)) = (0 : Int32)
  · refine Goes.step (fun _ k => XS.ifYes X0.here hx rfl (pc0 := 9) (pc' := 16) rfl (hb hby at_9) rfl ((if0 _ _).trans (teq hc9).1) (by decide) (by decide) k) ?_
    show Goes p e below s _ _ _ s₁ (mkF m 16 #[.val (.int p1), .val (.int p2), .val (.int p3), .val (.int p4), .val (.int p5), .val (.int (Int32.ofNat n)), .unset, .unset, .unset, .unset, .unset, .unset, .unset] [])
    refine Goes.step (fun _ k => XS.iconst X0.here hx rfl (hb hby at_16) k) ?_
    show Goes p e below s _ _ _ s₁ (mkF m 17 #[.val (.int p1), .val (.int p2), .val (.int p3), .val (.int p4), .val (.int p5), .val (.int (Int32.ofNat n)), .unset, .unset, .unset, .unset, .unset, .unset, .unset] [(.int (0 : Int32))])
    refine Goes.step (fun _ k => XS.istore X0.here hx rfl (hb hby at_17) rfl (l' := #[.val (.int p1), .val (.int p2), .val (.int p3), .val (.int p4), .val (.int p5), .val (.int (Int32.ofNat n)), .val (.int (0 : Int32)), .unset, .unset, .unset, .unset, .unset, .unset]) rfl k) ?_
    show Goes p e below s _ _ _ s₁ (mkF m 19 #[.val (.int p1), .val (.int p2), .val (.int p3), .val (.int p4), .val (.int p5), .val (.int (Int32.ofNat n)), .val (.int (0 : Int32)), .unset, .unset, .unset, .unset, .unset, .unset] [])
    refine Goes.step (fun _ k => XS.iloadN X0.here hx rfl (hb hby at_19) rfl k) ?_
    show Goes p e below s _ _ _ s₁ (mkF m 20 #[.val (.int p1), .val (.int p2), .val (.int p3), .val (.int p4), .val (.int p5), .val (.int (Int32.ofNat n)), .val (.int (0 : Int32)), .unset, .unset, .unset, .unset, .unset, .unset] [(.int p2)])
    refine Goes.step (fun _ k => XS.iconst X0.here hx rfl (hb hby at_20) k) ?_
    show Goes p e below s _ _ _ s₁ (mkF m 21 #[.val (.int p1), .val (.int p2), .val (.int p3), .val (.int p4), .val (.int p5), .val (.int (Int32.ofNat n)), .val (.int (0 : Int32)), .unset, .unset, .unset, .unset, .unset, .unset] [(.int (2 : Int32)), (.int p2)])
    refine Goes.step (fun _ k => XS.iand X0.here hx rfl (hb hby at_21) rfl k) ?_
    show Goes p e below s _ _ _ s₁ (mkF m 22 #[.val (.int p1), .val (.int p2), .val (.int p3), .val (.int p4), .val (.int p5), .val (.int (Int32.ofNat n)), .val (.int (0 : Int32)), .unset, .unset, .unset, .unset, .unset, .unset] [(.int (p2 &&& (2 : Int32)))])
    by_cases hc22 : (p2 &&& (2 : Int32)) = (0 : Int32)
    · refine Goes.step (fun _ k => XS.ifYes X0.here hx rfl (pc0 := 22) (pc' := 29) rfl (hb hby at_22) rfl ((if0 _ _).trans (teq hc22).1) (by decide) (by decide) k) ?_
      show Goes p e below s _ _ _ s₁ (mkF m 29 #[.val (.int p1), .val (.int p2), .val (.int p3), .val (.int p4), .val (.int p5), .val (.int (Int32.ofNat n)), .val (.int (0 : Int32)), .unset, .unset, .unset, .unset, .unset, .unset] [])
      refine Goes.step (fun _ k => XS.iconst X0.here hx rfl (hb hby at_29) k) ?_
      show Goes p e below s _ _ _ s₁ (mkF m 30 #[.val (.int p1), .val (.int p2), .val (.int p3), .val (.int p4), .val (.int p5), .val (.int (Int32.ofNat n)), .val (.int (0 : Int32)), .unset, .unset, .unset, .unset, .unset, .unset] [(.int (0 : Int32))])
      refine Goes.step (fun _ k => XS.istore X0.here hx rfl (hb hby at_30) rfl (l' := #[.val (.int p1), .val (.int p2), .val (.int p3), .val (.int p4), .val (.int p5), .val (.int (Int32.ofNat n)), .val (.int (0 : Int32)), .val (.int (0 : Int32)), .unset, .unset, .unset, .unset, .unset]) rfl k) ?_
      show Goes p e below s _ _ _ s₁ (mkF m 32 #[.val (.int p1), .val (.int p2), .val (.int p3), .val (.int p4), .val (.int p5), .val (.int (Int32.ofNat n)), .val (.int (0 : Int32)), .val (.int (0 : Int32)), .unset, .unset, .unset, .unset, .unset] [])
      refine Goes.step (fun _ k => XS.iloadN X0.here hx rfl (hb hby at_32) rfl k) ?_
      show Goes p e below s _ _ _ s₁ (mkF m 33 #[.val (.int p1), .val (.int p2), .val (.int p3), .val (.int p4), .val (.int p5), .val (.int (Int32.ofNat n)), .val (.int (0 : Int32)), .val (.int (0 : Int32)), .unset, .unset, .unset, .unset, .unset] [(.int p2)])
      refine Goes.step (fun _ k => XS.iconst X0.here hx rfl (hb hby at_33) k) ?_
      show Goes p e below s _ _ _ s₁ (mkF m 34 #[.val (.int p1), .val (.int p2), .val (.int p3), .val (.int p4), .val (.int p5), .val (.int (Int32.ofNat n)), .val (.int (0 : Int32)), .val (.int (0 : Int32)), .unset, .unset, .unset, .unset, .unset] [(.int (4 : Int32)), (.int p2)])
      refine Goes.step (fun _ k => XS.iand X0.here hx rfl (hb hby at_34) rfl k) ?_
      show Goes p e below s _ _ _ s₁ (mkF m 35 #[.val (.int p1), .val (.int p2), .val (.int p3), .val (.int p4), .val (.int p5), .val (.int (Int32.ofNat n)), .val (.int (0 : Int32)), .val (.int (0 : Int32)), .unset, .unset, .unset, .unset, .unset] [(.int (p2 &&& (4 : Int32)))])
      by_cases hc35 : (p2 &&& (4 : Int32)) = (0 : Int32)
      · refine Goes.step (fun _ k => XS.ifYes X0.here hx rfl (pc0 := 35) (pc' := 42) rfl (hb hby at_35) rfl ((if0 _ _).trans (teq hc35).1) (by decide) (by decide) k) ?_
        show Goes p e below s _ _ _ s₁ (mkF m 42 #[.val (.int p1), .val (.int p2), .val (.int p3), .val (.int p4), .val (.int p5), .val (.int (Int32.ofNat n)), .val (.int (0 : Int32)), .val (.int (0 : Int32)), .unset, .unset, .unset, .unset, .unset] [])
        refine Goes.step (fun _ k => XS.iconst X0.here hx rfl (hb hby at_42) k) ?_
        show Goes p e below s _ _ _ s₁ (mkF m 43 #[.val (.int p1), .val (.int p2), .val (.int p3), .val (.int p4), .val (.int p5), .val (.int (Int32.ofNat n)), .val (.int (0 : Int32)), .val (.int (0 : Int32)), .unset, .unset, .unset, .unset, .unset] [(.int (0 : Int32))])
        refine Goes.step (fun _ k => XS.istore X0.here hx rfl (hb hby at_43) rfl (l' := #[.val (.int p1), .val (.int p2), .val (.int p3), .val (.int p4), .val (.int p5), .val (.int (Int32.ofNat n)), .val (.int (0 : Int32)), .val (.int (0 : Int32)), .val (.int (0 : Int32)), .unset, .unset, .unset, .unset]) rfl k) ?_
        show Goes p e below s _ _ _ s₁ (mkF m 45 #[.val (.int p1), .val (.int p2), .val (.int p3), .val (.int p4), .val (.int p5), .val (.int (Int32.ofNat n)), .val (.int (0 : Int32)), .val (.int (0 : Int32)), .val (.int (0 : Int32)), .unset, .unset, .unset, .unset] [])
        obtain ⟨T1, h1, X1, e1, E1, A1, D1, -, st1⟩ := newO X0 hx hZ hown (hw _ (List.mem_of_getElem? (i := 0) rfl)) (hw _ (List.mem_of_getElem? (i := 1) rfl)) (hw _ (List.mem_of_getElem? (i := 2) rfl)) e0 (g := (mkF m 45 #[.val (.int p1), .val (.int p2), .val (.int p3), .val (.int p4), .val (.int p5), .val (.int (Int32.ofNat n)), .val (.int (0 : Int32)), .val (.int (0 : Int32)), .val (.int (0 : Int32)), .unset, .unset, .unset, .unset] [])) rfl (hb hby at_45) (by decide) (by decide)
        obtain ⟨b1, g_1⟩ : ∃ z, z = h0.size := ⟨_, rfl⟩
        rw [← g_1] at A1 D1 st1
        refine Goes.step st1 ?_
        have ge_b1 : n0 ≤ b1 := by rw [g_1]; exact Z0
        have sz_b1 : h0.size ≤ b1 := by rw [g_1]; exact K0.1
        have z_1 : n0 ≤ h1.size := Nat.le_trans Z0 E1.1
        have K_1 : Keep h0 h1 [] := K0.ext E1
        have E_b1_1 : Exa Z h1 b1 "com/example/proxysmith/proxysmith/ClassFileWriter$Bytes" := A1
        have F_b1_bytes_1 : Fld Z h1 b1 "com/example/proxysmith/proxysmith/ClassFileWriter$Bytes" "bytes" "[B" .null := D1 (Or.inl (hw _ (List.mem_of_getElem? (i := 11) rfl))) (ty := (.array .byte)) (by decide)
        have F_b1_size_1 : Fld Z h1 b1 "com/example/proxysmith/proxysmith/ClassFileWriter$Bytes" "size" "I" (.int (0 : Int32)) := D1 (Or.inl (hw _ (List.mem_of_getElem? (i := 22) rfl))) (ty := .int) (by decide)
        show Goes p e below s _ _ _ T1 (mkF m 48 #[.val (.int p1), .val (.int p2), .val (.int p3), .val (.int p4), .val (.int p5), .val (.int (Int32.ofNat n)), .val (.int (0 : Int32)), .val (.int (0 : Int32)), .val (.int (0 : Int32)), .unset, .unset, .unset, .unset] [(.ref b1)])
        refine Goes.step (fun _ k => XS.dup X1.here hx rfl (hb hby at_48) rfl rfl k) ?_
        show Goes p e below s _ _ _ T1 (mkF m 49 #[.val (.int p1), .val (.int p2), .val (.int p3), .val (.int p4), .val (.int p5), .val (.int (Int32.ofNat n)), .val (.int (0 : Int32)), .val (.int (0 : Int32)), .val (.int (0 : Int32)), .unset, .unset, .unset, .unset] [(.ref b1), (.ref b1)])
        refine Goes.step (fun _ k => XS.iload X1.here hx rfl (hb hby at_49) rfl k) ?_
        show Goes p e below s _ _ _ T1 (mkF m 51 #[.val (.int p1), .val (.int p2), .val (.int p3), .val (.int p4), .val (.int p5), .val (.int (Int32.ofNat n)), .val (.int (0 : Int32)), .val (.int (0 : Int32)), .val (.int (0 : Int32)), .unset, .unset, .unset, .unset] [(.int (Int32.ofNat n)), (.ref b1), (.ref b1)])
        obtain ⟨v2, T2, h2, L2, X2, e2, Q2, st2⟩ := callXI X1 hx hZ (b := b1) (y := (⟨"com/example/proxysmith/proxysmith/ClassFileWriter$Bytes", "<init>", "(I)V"⟩ : MethodName)) hown rfl (hw _ (List.mem_of_getElem? (i := 3) rfl)) (hw _ (List.mem_of_getElem? (i := 4) rfl)) (hw _ (List.mem_of_getElem? (i := 5) rfl)) (hw _ (List.mem_of_getElem? (i := 2) rfl)) (by decide) (W := 1) (argsL := [(.int (Int32.ofNat n))]) (rest := [(.ref b1)]) (rm1 l Z a0 hw [] b1 n h1 n0 z_1 E_b1_1 F_b1_bytes_1 F_b1_size_1 ge_b1 hn) (by decide) (by decide) (by decide) (by decide) e1 (g := (mkF m 51 #[.val (.int p1), .val (.int p2), .val (.int p3), .val (.int p4), .val (.int p5), .val (.int (Int32.ofNat n)), .val (.int (0 : Int32)), .val (.int (0 : Int32)), .val (.int (0 : Int32)), .unset, .unset, .unset, .unset] [(.int (Int32.ofNat n)), (.ref b1), (.ref b1)])) rfl (by rw [hml]; rfl) (lenOf pd_0_0 rfl) rfl (by show 2 * 0 + _ ≤ _; exact Nat.le_of_eq rfl) (hb hby at_51)
        obtain ⟨b2, rfl, NQ2, KQ2, hE2, hFb2, hFs2, hA2, hab2, hg2, hb2⟩ := Q2
        refine Goes.step st2 ?_
        have E_b1_2 := E_b1_1.keep KQ2
        have z_2 : n0 ≤ h2.size := Nat.le_trans z_1 KQ2.1
        have K_2 : Keep h0 h2 [] := Keep.trans K_1 KQ2 (allS (Or.inr sz_b1) all0)
        have N_2 := Fr.app N0 NQ2
        show Goes p e below s _ _ _ T2 (mkF m 54 #[.val (.int p1), .val (.int p2), .val (.int p3), .val (.int p4), .val (.int p5), .val (.int (Int32.ofNat n)), .val (.int (0 : Int32)), .val (.int (0 : Int32)), .val (.int (0 : Int32)), .unset, .unset, .unset, .unset] [(.ref b1)])
        refine Goes.step (fun _ k => XS.astore X2.here hx rfl (hb hby at_54) rfl rfl (l' := #[.val (.int p1), .val (.int p2), .val (.int p3), .val (.int p4), .val (.int p5), .val (.int (Int32.ofNat n)), .val (.int (0 : Int32)), .val (.int (0 : Int32)), .val (.int (0 : Int32)), .val (.ref b1), .unset, .unset, .unset]) rfl k) ?_
        show Goes p e below s _ _ _ T2 (mkF m 56 #[.val (.int p1), .val (.int p2), .val (.int p3), .val (.int p4), .val (.int p5), .val (.int (Int32.ofNat n)), .val (.int (0 : Int32)), .val (.int (0 : Int32)), .val (.int (0 : Int32)), .val (.ref b1), .unset, .unset, .unset] [])
        refine Goes.step (fun _ k => XS.bipush X2.here hx rfl (hb hby at_56) k) ?_
        show Goes p e below s _ _ _ T2 (mkF m 58 #[.val (.int p1), .val (.int p2), .val (.int p3), .val (.int p4), .val (.int p5), .val (.int (Int32.ofNat n)), .val (.int (0 : Int32)), .val (.int (0 : Int32)), .val (.int (0 : Int32)), .val (.ref b1), .unset, .unset, .unset] [(.int (7 : Int32))])
        obtain ⟨T3, h3, X3, e3, E3, A3, st3⟩ := newI X2 hx hZ (hw _ (List.mem_of_getElem? (i := 9) rfl)) e2 (g := (mkF m 58 #[.val (.int p1), .val (.int p2), .val (.int p3), .val (.int p4), .val (.int p5), .val (.int (Int32.ofNat n)), .val (.int (0 : Int32)), .val (.int (0 : Int32)), .val (.int (0 : Int32)), .val (.ref b1), .unset, .unset, .unset] [(.int (7 : Int32))])) rfl (hb hby at_58) rfl (N := 7) rfl (cap := 7) (by decide) (by decide) (by decide) (by decide) rfl (by decide)
        obtain ⟨b3, g_3⟩ : ∃ z, z = h2.size := ⟨_, rfl⟩
        rw [← g_3] at A3 st3
        refine Goes.step st3 ?_
        have ne_b1_b3 : b1 ≠ b3 := Nat.ne_of_lt (by rw [g_3]; exact hE2.lt)
        have ne_b2_b3 : b2 ≠ b3 := Nat.ne_of_lt (by rw [g_3]; exact hA2.lt)
        have ge_b3 : n0 ≤ b3 := by rw [g_3]; exact z_2
        have sz_b3 : h0.size ≤ b3 := by rw [g_3]; exact K_2.1
        have hE2_3 := hE2.ext E3
        have hFb2_3 := hFb2.ext E3
        have hFs2_3 := hFs2.ext E3
        have hA2_3 := hA2.ext E3
        have z_3 : n0 ≤ h3.size := Nat.le_trans z_2 E3.1
        have K_3 : Keep h0 h3 [] := K_2.ext E3
        have A_b3_3 : Ari Z h3 b3 .byte (7) (fun _ => 0) := A3
        show Goes p e below s _ _ _ T3 (mkF m 60 #[.val (.int p1), .val (.int p2), .val (.int p3), .val (.int p4), .val (.int p5), .val (.int (Int32.ofNat n)), .val (.int (0 : Int32)), .val (.int (0 : Int32)), .val (.int (0 : Int32)), .val (.ref b1), .unset, .unset, .unset] [(.ref b3)])
        refine Goes.step (fun _ k => XS.astore X3.here hx rfl (hb hby at_60) rfl rfl (l' := #[.val (.int p1), .val (.int p2), .val (.int p3), .val (.int p4), .val (.int p5), .val (.int (Int32.ofNat n)), .val (.int (0 : Int32)), .val (.int (0 : Int32)), .val (.int (0 : Int32)), .val (.ref b1), .val (.ref b3), .unset, .unset]) rfl k) ?_
        show Goes p e below s _ _ _ T3 (mkF m 62 #[.val (.int p1), .val (.int p2), .val (.int p3), .val (.int p4), .val (.int p5), .val (.int (Int32.ofNat n)), .val (.int (0 : Int32)), .val (.int (0 : Int32)), .val (.int (0 : Int32)), .val (.ref b1), .val (.ref b3), .unset, .unset] [])
        refine Goes.step (fun _ k => XS.iconst X3.here hx rfl (hb hby at_62) k) ?_
        show Goes p e below s _ _ _ T3 (mkF m 63 #[.val (.int p1), .val (.int p2), .val (.int p3), .val (.int p4), .val (.int p5), .val (.int (Int32.ofNat n)), .val (.int (0 : Int32)), .val (.int (0 : Int32)), .val (.int (0 : Int32)), .val (.ref b1), .val (.ref b3), .unset, .unset] [(.int (0 : Int32))])
        refine Goes.step (fun _ k => XS.istore X3.here hx rfl (hb hby at_63) rfl (l' := #[.val (.int p1), .val (.int p2), .val (.int p3), .val (.int p4), .val (.int p5), .val (.int (Int32.ofNat n)), .val (.int (0 : Int32)), .val (.int (0 : Int32)), .val (.int (0 : Int32)), .val (.ref b1), .val (.ref b3), .val (.int (0 : Int32)), .unset]) rfl k) ?_
        show Goes p e below s _ _ _ T3 (mkF m 65 #[.val (.int p1), .val (.int p2), .val (.int p3), .val (.int p4), .val (.int p5), .val (.int (Int32.ofNat n)), .val (.int (0 : Int32)), .val (.int (0 : Int32)), .val (.int (0 : Int32)), .val (.ref b1), .val (.ref b3), .val (.int (0 : Int32)), .unset] [])
        refine Goes.step (fun _ k => XS.iload X3.here hx rfl (hb hby at_65) rfl k) ?_
        show Goes p e below s _ _ _ T3 (mkF m 67 #[.val (.int p1), .val (.int p2), .val (.int p3), .val (.int p4), .val (.int p5), .val (.int (Int32.ofNat n)), .val (.int (0 : Int32)), .val (.int (0 : Int32)), .val (.int (0 : Int32)), .val (.ref b1), .val (.ref b3), .val (.int (0 : Int32)), .unset] [(.int (0 : Int32))])
        refine Goes.step (fun _ k => XS.ifYes X3.here hx rfl (pc0 := 67) (pc' := 89) rfl (hb hby at_67) rfl ((if0 _ _).trans (teq (by decide : (0 : Int32) = (0 : Int32))).1) (by decide) (by decide) k) ?_
        show Goes p e below s _ _ _ T3 (mkF m 89 #[.val (.int p1), .val (.int p2), .val (.int p3), .val (.int p4), .val (.int p5), .val (.int (Int32.ofNat n)), .val (.int (0 : Int32)), .val (.int (0 : Int32)), .val (.int (0 : Int32)), .val (.ref b1), .val (.ref b3), .val (.int (0 : Int32)), .unset] [])
        refine Goes.step (fun _ k => XS.iload X3.here hx rfl (hb hby at_89) rfl k) ?_
        show Goes p e below s _ _ _ T3 (mkF m 91 #[.val (.int p1), .val (.int p2), .val (.int p3), .val (.int p4), .val (.int p5), .val (.int (Int32.ofNat n)), .val (.int (0 : Int32)), .val (.int (0 : Int32)), .val (.int (0 : Int32)), .val (.ref b1), .val (.ref b3), .val (.int (0 : Int32)), .unset] [(.int (0 : Int32))])
        refine Goes.step (fun _ k => XS.ifYes X3.here hx rfl (pc0 := 91) (pc' := 125) rfl (hb hby at_91) rfl ((if0 _ _).trans (teq (by decide : (0 : Int32) = (0 : Int32))).1) (by decide) (by decide) k) ?_
        show Goes p e below s _ _ _ T3 (mkF m 125 #[.val (.int p1), .val (.int p2), .val (.int p3), .val (.int p4), .val (.int p5), .val (.int (Int32.ofNat n)), .val (.int (0 : Int32)), .val (.int (0 : Int32)), .val (.int (0 : Int32)), .val (.ref b1), .val (.ref b3), .val (.int (0 : Int32)), .unset] [])
        refine Goes.step (fun _ k => XS.iload X3.here hx rfl (hb hby at_125) rfl k) ?_
        show Goes p e below s _ _ _ T3 (mkF m 127 #[.val (.int p1), .val (.int p2), .val (.int p3), .val (.int p4), .val (.int p5), .val (.int (Int32.ofNat n)), .val (.int (0 : Int32)), .val (.int (0 : Int32)), .val (.int (0 : Int32)), .val (.ref b1), .val (.ref b3), .val (.int (0 : Int32)), .unset] [(.int (0 : Int32))])
        refine Goes.step (fun _ k => XS.ifYes X3.here hx rfl (pc0 := 127) (pc' := 190) rfl (hb hby at_127) rfl ((if0 _ _).trans (teq (by decide : (0 : Int32) = (0 : Int32))).1) (by decide) (by decide) k) ?_
        show Goes p e below s _ _ _ T3 (mkF m 190 #[.val (.int p1), .val (.int p2), .val (.int p3), .val (.int p4), .val (.int p5), .val (.int (Int32.ofNat n)), .val (.int (0 : Int32)), .val (.int (0 : Int32)), .val (.int (0 : Int32)), .val (.ref b1), .val (.ref b3), .val (.int (0 : Int32)), .unset] [])
        refine Goes.step (fun _ k => XS.aload X3.here hx rfl (hb hby at_190) rfl rfl k) ?_
        show Goes p e below s _ _ _ T3 (mkF m 192 #[.val (.int p1), .val (.int p2), .val (.int p3), .val (.int p4), .val (.int p5), .val (.int (Int32.ofNat n)), .val (.int (0 : Int32)), .val (.int (0 : Int32)), .val (.int (0 : Int32)), .val (.ref b1), .val (.ref b3), .val (.int (0 : Int32)), .unset] [(.ref b1)])
        obtain ⟨v4, T4, h4, L4, X4, e4, Q4, st4⟩ := callXV X3 hx hZ (C := "com/example/proxysmith/proxysmith/ClassFileWriter$Bytes") (b := b1) (y := (⟨"com/example/proxysmith/proxysmith/ClassFileWriter$Bytes", "toByteArray", "()[B"⟩ : MethodName)) (z := (⟨"com/example/proxysmith/proxysmith/ClassFileWriter$Bytes", "toByteArray", "()[B"⟩ : MethodName)) hown (hw _ (List.mem_of_getElem? (i := 43) rfl)) (hw _ (List.mem_of_getElem? (i := 44) rfl)) (hw _ (List.mem_of_getElem? (i := 46) rfl)) (hw _ (List.mem_of_getElem? (i := 45) rfl)) (hw _ (List.mem_of_getElem? (i := 47) rfl)) (hw _ (List.mem_of_getElem? (i := 2) rfl)) (notFace_of_selects (args := #[]) (mvT hZ (hw _ (List.mem_of_getElem? (i := 46) rfl)))) (by decide) (W := 0) (argsL := []) (rest := []) (rm9 l Z a0 hw [] b1 b2 n 0 (fun _ => 0) h3 n0 z_3 hE2_3 hFb2_3 hFs2_3 hA2_3 hab2 ge_b1 hg2 (Nat.zero_le n) (Nat.le_trans hn (by decide)) (by omega)) (by decide) (by decide) (by decide) (by decide) e3 hE2_3 (g := (mkF m 192 #[.val (.int p1), .val (.int p2), .val (.int p3), .val (.int p4), .val (.int p5), .val (.int (Int32.ofNat n)), .val (.int (0 : Int32)), .val (.int (0 : Int32)), .val (.int (0 : Int32)), .val (.ref b1), .val (.ref b3), .val (.int (0 : Int32)), .unset] [(.ref b1)])) rfl (by rw [hml]; rfl) (lenOf pd_0_1 rfl) rfl (by show 2 * 0 + _ ≤ _; exact Nat.le_of_eq rfl) (hb hby at_192)
        obtain ⟨r4, rfl, NQ4, KQ4, g4, hA4, hg4⟩ := Q4
        refine Goes.step st4 ?_
        have hE2_4 := hE2_3.keep KQ4
        have hFb2_4 := hFb2_3.keep KQ4 nin0
        have hFs2_4 := hFs2_3.keep KQ4 nin0
        have hA2_4 := hA2_3.keep KQ4 nin0
        have A_b3_4 := A_b3_3.keep KQ4 nin0
        have z_4 : n0 ≤ h4.size := Nat.le_trans z_3 KQ4.1
        have K_4 : Keep h0 h4 [] := Keep.trans K_3 KQ4 all0
        have N_4 := Fr.app N_2 NQ4
        show Goes p e below s _ _ _ T4 (mkF m 195 #[.val (.int p1), .val (.int p2), .val (.int p3), .val (.int p4), .val (.int p5), .val (.int (Int32.ofNat n)), .val (.int (0 : Int32)), .val (.int (0 : Int32)), .val (.int (0 : Int32)), .val (.ref b1), .val (.ref b3), .val (.int (0 : Int32)), .unset] [(.ref r4)])
        refine Goes.step (fun _ k => XS.astore X4.here hx rfl (hb hby at_195) rfl rfl (l' := #[.val (.int p1), .val (.int p2), .val (.int p3), .val (.int p4), .val (.int p5), .val (.int (Int32.ofNat n)), .val (.int (0 : Int32)), .val (.int (0 : Int32)), .val (.int (0 : Int32)), .val (.ref b1), .val (.ref b3), .val (.int (0 : Int32)), .val (.ref r4)]) rfl k) ?_
        show Goes p e below s _ _ _ T4 (mkF m 197 #[.val (.int p1), .val (.int p2), .val (.int p3), .val (.int p4), .val (.int p5), .val (.int (Int32.ofNat n)), .val (.int (0 : Int32)), .val (.int (0 : Int32)), .val (.int (0 : Int32)), .val (.ref b1), .val (.ref b3), .val (.int (0 : Int32)), .val (.ref r4)] [])
        refine Goes.step (fun _ k => XS.aload X4.here hx rfl (hb hby at_197) rfl rfl k) ?_
        show Goes p e below s _ _ _ T4 (mkF m 199 #[.val (.int p1), .val (.int p2), .val (.int p3), .val (.int p4), .val (.int p5), .val (.int (Int32.ofNat n)), .val (.int (0 : Int32)), .val (.int (0 : Int32)), .val (.int (0 : Int32)), .val (.ref b1), .val (.ref b3), .val (.int (0 : Int32)), .val (.ref r4)] [(.ref r4)])
        refine Goes.step (fun _ k => XS.ifnullNo X4.here hx rfl (hb hby at_199) rfl k) ?_
        show Goes p e below s _ _ _ T4 (mkF m 202 #[.val (.int p1), .val (.int p2), .val (.int p3), .val (.int p4), .val (.int p5), .val (.int (Int32.ofNat n)), .val (.int (0 : Int32)), .val (.int (0 : Int32)), .val (.int (0 : Int32)), .val (.ref b1), .val (.ref b3), .val (.int (0 : Int32)), .val (.ref r4)] [])
        refine Goes.step (fun _ k => XS.aload X4.here hx rfl (hb hby at_202) rfl rfl k) ?_
        show Goes p e below s _ _ _ T4 (mkF m 204 #[.val (.int p1), .val (.int p2), .val (.int p3), .val (.int p4), .val (.int p5), .val (.int (Int32.ofNat n)), .val (.int (0 : Int32)), .val (.int (0 : Int32)), .val (.int (0 : Int32)), .val (.ref b1), .val (.ref b3), .val (.int (0 : Int32)), .val (.ref r4)] [(.ref r4)])
        refine Goes.step (fun _ k => rdL X4 hx hZ e4 hA4 (g := (mkF m 204 #[.val (.int p1), .val (.int p2), .val (.int p3), .val (.int p4), .val (.int p5), .val (.int (Int32.ofNat n)), .val (.int (0 : Int32)), .val (.int (0 : Int32)), .val (.int (0 : Int32)), .val (.ref b1), .val (.ref b3), .val (.int (0 : Int32)), .val (.ref r4)] [(.ref r4)])) rfl rfl (hb hby at_204) _ k) ?_
        show Goes p e below s _ _ _ T4 (mkF m 205 #[.val (.int p1), .val (.int p2), .val (.int p3), .val (.int p4), .val (.int p5), .val (.int (Int32.ofNat n)), .val (.int (0 : Int32)), .val (.int (0 : Int32)), .val (.int (0 : Int32)), .val (.ref b1), .val (.ref b3), .val (.int (0 : Int32)), .val (.ref r4)] [(.int (Int32.ofNat 0))])
        refine Goes.step (fun _ k => XS.iload X4.here hx rfl (hb hby at_205) rfl k) ?_
        show Goes p e below s _ _ _ T4 (mkF m 207 #[.val (.int p1), .val (.int p2), .val (.int p3), .val (.int p4), .val (.int p5), .val (.int (Int32.ofNat n)), .val (.int (0 : Int32)), .val (.int (0 : Int32)), .val (.int (0 : Int32)), .val (.ref b1), .val (.ref b3), .val (.int (0 : Int32)), .val (.ref r4)] [(.int (0 : Int32)), (.int (Int32.ofNat 0))])
        refine Goes.step (fun _ k => XS.icmpYes X4.here hx rfl (pc0 := 207) (pc' := 212) rfl (hb hby at_207) rfl (teq (by decide : (Int32.ofNat 0) = (0 : Int32))).1 (by decide) (by decide) k) ?_
        show Goes p e below s _ _ _ T4 (mkF m 212 #[.val (.int p1), .val (.int p2), .val (.int p3), .val (.int p4), .val (.int p5), .val (.int (Int32.ofNat n)), .val (.int (0 : Int32)), .val (.int (0 : Int32)), .val (.int (0 : Int32)), .val (.ref b1), .val (.ref b3), .val (.int (0 : Int32)), .val (.ref r4)] [])
        refine Goes.step (fun _ k => XS.aload X4.here hx rfl (hb hby at_212) rfl rfl k) ?_
        show Goes p e below s _ _ _ T4 (mkF m 214 #[.val (.int p1), .val (.int p2), .val (.int p3), .val (.int p4), .val (.int p5), .val (.int (Int32.ofNat n)), .val (.int (0 : Int32)), .val (.int (0 : Int32)), .val (.int (0 : Int32)), .val (.ref b1), .val (.ref b3), .val (.int (0 : Int32)), .val (.ref r4)] [(.ref r4)])
        refine Goes.step (fun _ k => XS.aload X4.here hx rfl (hb hby at_214) rfl rfl k) ?_
        show Goes p e below s _ _ _ T4 (mkF m 216 #[.val (.int p1), .val (.int p2), .val (.int p3), .val (.int p4), .val (.int p5), .val (.int (Int32.ofNat n)), .val (.int (0 : Int32)), .val (.int (0 : Int32)), .val (.int (0 : Int32)), .val (.ref b1), .val (.ref b3), .val (.int (0 : Int32)), .val (.ref r4)] [(.ref b3), (.ref r4)])
        refine Goes.step (fun _ k => XS.iload X4.here hx rfl (hb hby at_216) rfl k) ?_
        show Goes p e below s _ _ _ T4 (mkF m 218 #[.val (.int p1), .val (.int p2), .val (.int p3), .val (.int p4), .val (.int p5), .val (.int (Int32.ofNat n)), .val (.int (0 : Int32)), .val (.int (0 : Int32)), .val (.int (0 : Int32)), .val (.ref b1), .val (.ref b3), .val (.int (0 : Int32)), .val (.ref r4)] [(.int (0 : Int32)), (.ref b3), (.ref r4)])
        refine Goes.step (fun _ k => XS.iconst X4.here hx rfl (hb hby at_218) k) ?_
        show Goes p e below s _ _ _ T4 (mkF m 219 #[.val (.int p1), .val (.int p2), .val (.int p3), .val (.int p4), .val (.int p5), .val (.int (Int32.ofNat n)), .val (.int (0 : Int32)), .val (.int (0 : Int32)), .val (.int (0 : Int32)), .val (.ref b1), .val (.ref b3), .val (.int (0 : Int32)), .val (.ref r4)] [(.int (0 : Int32)), (.int (0 : Int32)), (.ref b3), (.ref r4)])
        obtain ⟨T5, X5, e5, st5⟩ := callPure X4 hx hZ (y := (⟨"com/example/proxysmith/proxysmith/BytesToByteArrayPinLaw", "same", "([B[BII)Z"⟩ : MethodName)) hown (hw _ (List.mem_of_getElem? (i := 48) rfl)) (hw _ (List.mem_of_getElem? (i := 49) rfl)) (hw _ (List.mem_of_getElem? (i := 50) rfl)) (hw _ (List.mem_of_getElem? (i := 51) rfl)) (by decide) (W := 0) (argsL := [(.ref r4), (.ref b3), (.int (0 : Int32)), (.int (0 : Int32))]) (rest := []) (r := (.int (1 : Int32))) (fun _ _ _ q => q) (rm10a l Z a0 hw [] r4 b3 (0 : Int32) (0 : Int32) h4 n0 z_4 (by decide)) (by decide) (by decide) (by decide) (by decide) e4 (g := (mkF m 219 #[.val (.int p1), .val (.int p2), .val (.int p3), .val (.int p4), .val (.int p5), .val (.int (Int32.ofNat n)), .val (.int (0 : Int32)), .val (.int (0 : Int32)), .val (.int (0 : Int32)), .val (.ref b1), .val (.ref b3), .val (.int (0 : Int32)), .val (.ref r4)] [(.int (0 : Int32)), (.int (0 : Int32)), (.ref b3), (.ref r4)])) rfl (by rw [hml]; rfl) (lenOf pd_0_2 rfl) rfl (by show 2 * 0 + _ ≤ _; exact Nat.le_of_eq rfl) (hb hby at_219)
        refine Goes.step st5 ?_
        show Goes p e below s _ _ _ T5 (mkF m 222 #[.val (.int p1), .val (.int p2), .val (.int p3), .val (.int p4), .val (.int p5), .val (.int (Int32.ofNat n)), .val (.int (0 : Int32)), .val (.int (0 : Int32)), .val (.int (0 : Int32)), .val (.ref b1), .val (.ref b3), .val (.int (0 : Int32)), .val (.ref r4)] [(.int (1 : Int32))])
        refine Goes.step (fun _ k => XS.ifNo X5.here hx rfl (hb hby at_222) rfl ((if0 _ _).trans (feq (by decide : ¬ ((1 : Int32) = (0 : Int32)))).1) k) ?_
        show Goes p e below s _ _ _ T5 (mkF m 225 #[.val (.int p1), .val (.int p2), .val (.int p3), .val (.int p4), .val (.int p5), .val (.int (Int32.ofNat n)), .val (.int (0 : Int32)), .val (.int (0 : Int32)), .val (.int (0 : Int32)), .val (.ref b1), .val (.ref b3), .val (.int (0 : Int32)), .val (.ref r4)] [])
        refine Goes.step (fun _ k => XS.aload X5.here hx rfl (hb hby at_225) rfl rfl k) ?_
        show Goes p e below s _ _ _ T5 (mkF m 227 #[.val (.int p1), .val (.int p2), .val (.int p3), .val (.int p4), .val (.int p5), .val (.int (Int32.ofNat n)), .val (.int (0 : Int32)), .val (.int (0 : Int32)), .val (.int (0 : Int32)), .val (.ref b1), .val (.ref b3), .val (.int (0 : Int32)), .val (.ref r4)] [(.ref r4)])
        refine Goes.step (fun _ k => XS.aload X5.here hx rfl (hb hby at_227) rfl rfl k) ?_
        show Goes p e below s _ _ _ T5 (mkF m 229 #[.val (.int p1), .val (.int p2), .val (.int p3), .val (.int p4), .val (.int p5), .val (.int (Int32.ofNat n)), .val (.int (0 : Int32)), .val (.int (0 : Int32)), .val (.int (0 : Int32)), .val (.ref b1), .val (.ref b3), .val (.int (0 : Int32)), .val (.ref r4)] [(.ref b3), (.ref r4)])
        refine Goes.step (fun _ k => XS.iload X5.here hx rfl (hb hby at_229) rfl k) ?_
        show Goes p e below s _ _ _ T5 (mkF m 231 #[.val (.int p1), .val (.int p2), .val (.int p3), .val (.int p4), .val (.int p5), .val (.int (Int32.ofNat n)), .val (.int (0 : Int32)), .val (.int (0 : Int32)), .val (.int (0 : Int32)), .val (.ref b1), .val (.ref b3), .val (.int (0 : Int32)), .val (.ref r4)] [(.int (0 : Int32)), (.ref b3), (.ref r4)])
        refine Goes.step (fun _ k => XS.iconst X5.here hx rfl (hb hby at_231) k) ?_
        show Goes p e below s _ _ _ T5 (mkF m 232 #[.val (.int p1), .val (.int p2), .val (.int p3), .val (.int p4), .val (.int p5), .val (.int (Int32.ofNat n)), .val (.int (0 : Int32)), .val (.int (0 : Int32)), .val (.int (0 : Int32)), .val (.ref b1), .val (.ref b3), .val (.int (0 : Int32)), .val (.ref r4)] [(.int (1 : Int32)), (.int (0 : Int32)), (.ref b3), (.ref r4)])
        obtain ⟨T6, X6, e6, st6⟩ := callPure X5 hx hZ (y := (⟨"com/example/proxysmith/proxysmith/BytesToByteArrayPinLaw", "same", "([B[BII)Z"⟩ : MethodName)) hown (hw _ (List.mem_of_getElem? (i := 48) rfl)) (hw _ (List.mem_of_getElem? (i := 49) rfl)) (hw _ (List.mem_of_getElem? (i := 50) rfl)) (hw _ (List.mem_of_getElem? (i := 51) rfl)) (by decide) (W := 0) (argsL := [(.ref r4), (.ref b3), (.int (0 : Int32)), (.int (1 : Int32))]) (rest := []) (r := (.int (1 : Int32))) (fun _ _ _ q => q) (rm10a l Z a0 hw [] r4 b3 (0 : Int32) (1 : Int32) h4 n0 z_4 (by decide)) (by decide) (by decide) (by decide) (by decide) e5 (g := (mkF m 232 #[.val (.int p1), .val (.int p2), .val (.int p3), .val (.int p4), .val (.int p5), .val (.int (Int32.ofNat n)), .val (.int (0 : Int32)), .val (.int (0 : Int32)), .val (.int (0 : Int32)), .val (.ref b1), .val (.ref b3), .val (.int (0 : Int32)), .val (.ref r4)] [(.int (1 : Int32)), (.int (0 : Int32)), (.ref b3), (.ref r4)])) rfl (by rw [hml]; rfl) (lenOf pd_0_2 rfl) rfl (by show 2 * 0 + _ ≤ _; exact Nat.le_of_eq rfl) (hb hby at_232)
        refine Goes.step st6 ?_
        show Goes p e below s _ _ _ T6 (mkF m 235 #[.val (.int p1), .val (.int p2), .val (.int p3), .val (.int p4), .val (.int p5), .val (.int (Int32.ofNat n)), .val (.int (0 : Int32)), .val (.int (0 : Int32)), .val (.int (0 : Int32)), .val (.ref b1), .val (.ref b3), .val (.int (0 : Int32)), .val (.ref r4)] [(.int (1 : Int32))])
        refine Goes.step (fun _ k => XS.ifNo X6.here hx rfl (hb hby at_235) rfl ((if0 _ _).trans (feq (by decide : ¬ ((1 : Int32) = (0 : Int32)))).1) k) ?_
        show Goes p e below s _ _ _ T6 (mkF m 238 #[.val (.int p1), .val (.int p2), .val (.int p3), .val (.int p4), .val (.int p5), .val (.int (Int32.ofNat n)), .val (.int (0 : Int32)), .val (.int (0 : Int32)), .val (.int (0 : Int32)), .val (.ref b1), .val (.ref b3), .val (.int (0 : Int32)), .val (.ref r4)] [])
        refine Goes.step (fun _ k => XS.aload X6.here hx rfl (hb hby at_238) rfl rfl k) ?_
        show Goes p e below s _ _ _ T6 (mkF m 240 #[.val (.int p1), .val (.int p2), .val (.int p3), .val (.int p4), .val (.int p5), .val (.int (Int32.ofNat n)), .val (.int (0 : Int32)), .val (.int (0 : Int32)), .val (.int (0 : Int32)), .val (.ref b1), .val (.ref b3), .val (.int (0 : Int32)), .val (.ref r4)] [(.ref r4)])
        refine Goes.step (fun _ k => XS.aload X6.here hx rfl (hb hby at_240) rfl rfl k) ?_
        show Goes p e below s _ _ _ T6 (mkF m 242 #[.val (.int p1), .val (.int p2), .val (.int p3), .val (.int p4), .val (.int p5), .val (.int (Int32.ofNat n)), .val (.int (0 : Int32)), .val (.int (0 : Int32)), .val (.int (0 : Int32)), .val (.ref b1), .val (.ref b3), .val (.int (0 : Int32)), .val (.ref r4)] [(.ref b3), (.ref r4)])
        refine Goes.step (fun _ k => XS.iload X6.here hx rfl (hb hby at_242) rfl k) ?_
        show Goes p e below s _ _ _ T6 (mkF m 244 #[.val (.int p1), .val (.int p2), .val (.int p3), .val (.int p4), .val (.int p5), .val (.int (Int32.ofNat n)), .val (.int (0 : Int32)), .val (.int (0 : Int32)), .val (.int (0 : Int32)), .val (.ref b1), .val (.ref b3), .val (.int (0 : Int32)), .val (.ref r4)] [(.int (0 : Int32)), (.ref b3), (.ref r4)])
        refine Goes.step (fun _ k => XS.iconst X6.here hx rfl (hb hby at_244) k) ?_
        show Goes p e below s _ _ _ T6 (mkF m 245 #[.val (.int p1), .val (.int p2), .val (.int p3), .val (.int p4), .val (.int p5), .val (.int (Int32.ofNat n)), .val (.int (0 : Int32)), .val (.int (0 : Int32)), .val (.int (0 : Int32)), .val (.ref b1), .val (.ref b3), .val (.int (0 : Int32)), .val (.ref r4)] [(.int (2 : Int32)), (.int (0 : Int32)), (.ref b3), (.ref r4)])
        obtain ⟨T7, X7, e7, st7⟩ := callPure X6 hx hZ (y := (⟨"com/example/proxysmith/proxysmith/BytesToByteArrayPinLaw", "same", "([B[BII)Z"⟩ : MethodName)) hown (hw _ (List.mem_of_getElem? (i := 48) rfl)) (hw _ (List.mem_of_getElem? (i := 49) rfl)) (hw _ (List.mem_of_getElem? (i := 50) rfl)) (hw _ (List.mem_of_getElem? (i := 51) rfl)) (by decide) (W := 0) (argsL := [(.ref r4), (.ref b3), (.int (0 : Int32)), (.int (2 : Int32))]) (rest := []) (r := (.int (1 : Int32))) (fun _ _ _ q => q) (rm10a l Z a0 hw [] r4 b3 (0 : Int32) (2 : Int32) h4 n0 z_4 (by decide)) (by decide) (by decide) (by decide) (by decide) e6 (g := (mkF m 245 #[.val (.int p1), .val (.int p2), .val (.int p3), .val (.int p4), .val (.int p5), .val (.int (Int32.ofNat n)), .val (.int (0 : Int32)), .val (.int (0 : Int32)), .val (.int (0 : Int32)), .val (.ref b1), .val (.ref b3), .val (.int (0 : Int32)), .val (.ref r4)] [(.int (2 : Int32)), (.int (0 : Int32)), (.ref b3), (.ref r4)])) rfl (by rw [hml]; rfl) (lenOf pd_0_2 rfl) rfl (by show 2 * 0 + _ ≤ _; exact Nat.le_of_eq rfl) (hb hby at_245)
        refine Goes.step st7 ?_
        show Goes p e below s _ _ _ T7 (mkF m 248 #[.val (.int p1), .val (.int p2), .val (.int p3), .val (.int p4), .val (.int p5), .val (.int (Int32.ofNat n)), .val (.int (0 : Int32)), .val (.int (0 : Int32)), .val (.int (0 : Int32)), .val (.ref b1), .val (.ref b3), .val (.int (0 : Int32)), .val (.ref r4)] [(.int (1 : Int32))])
        as_aux_lemma =>
          refine Goes.step (fun _ k => XS.ifNo X7.here hx rfl (hb hby at_248) rfl ((if0 _ _).trans (feq (by decide : ¬ ((1 : Int32) = (0 : Int32)))).1) k) ?_
          show Goes p e below s _ _ _ T7 (mkF m 251 #[.val (.int p1), .val (.int p2), .val (.int p3), .val (.int p4), .val (.int p5), .val (.int (Int32.ofNat n)), .val (.int (0 : Int32)), .val (.int (0 : Int32)), .val (.int (0 : Int32)), .val (.ref b1), .val (.ref b3), .val (.int (0 : Int32)), .val (.ref r4)] [])
          refine Goes.step (fun _ k => XS.aload X7.here hx rfl (hb hby at_251) rfl rfl k) ?_
          show Goes p e below s _ _ _ T7 (mkF m 253 #[.val (.int p1), .val (.int p2), .val (.int p3), .val (.int p4), .val (.int p5), .val (.int (Int32.ofNat n)), .val (.int (0 : Int32)), .val (.int (0 : Int32)), .val (.int (0 : Int32)), .val (.ref b1), .val (.ref b3), .val (.int (0 : Int32)), .val (.ref r4)] [(.ref r4)])
          refine Goes.step (fun _ k => XS.aload X7.here hx rfl (hb hby at_253) rfl rfl k) ?_
          show Goes p e below s _ _ _ T7 (mkF m 255 #[.val (.int p1), .val (.int p2), .val (.int p3), .val (.int p4), .val (.int p5), .val (.int (Int32.ofNat n)), .val (.int (0 : Int32)), .val (.int (0 : Int32)), .val (.int (0 : Int32)), .val (.ref b1), .val (.ref b3), .val (.int (0 : Int32)), .val (.ref r4)] [(.ref b3), (.ref r4)])
          refine Goes.step (fun _ k => XS.iload X7.here hx rfl (hb hby at_255) rfl k) ?_
          show Goes p e below s _ _ _ T7 (mkF m 257 #[.val (.int p1), .val (.int p2), .val (.int p3), .val (.int p4), .val (.int p5), .val (.int (Int32.ofNat n)), .val (.int (0 : Int32)), .val (.int (0 : Int32)), .val (.int (0 : Int32)), .val (.ref b1), .val (.ref b3), .val (.int (0 : Int32)), .val (.ref r4)] [(.int (0 : Int32)), (.ref b3), (.ref r4)])
          refine Goes.step (fun _ k => XS.iconst X7.here hx rfl (hb hby at_257) k) ?_
          show Goes p e below s _ _ _ T7 (mkF m 258 #[.val (.int p1), .val (.int p2), .val (.int p3), .val (.int p4), .val (.int p5), .val (.int (Int32.ofNat n)), .val (.int (0 : Int32)), .val (.int (0 : Int32)), .val (.int (0 : Int32)), .val (.ref b1), .val (.ref b3), .val (.int (0 : Int32)), .val (.ref r4)] [(.int (3 : Int32)), (.int (0 : Int32)), (.ref b3), (.ref r4)])
          obtain ⟨T8, X8, e8, st8⟩ := callPure X7 hx hZ (y := (⟨"com/example/proxysmith/proxysmith/BytesToByteArrayPinLaw", "same", "([B[BII)Z"⟩ : MethodName)) hown (hw _ (List.mem_of_getElem? (i := 48) rfl)) (hw _ (List.mem_of_getElem? (i := 49) rfl)) (hw _ (List.mem_of_getElem? (i := 50) rfl)) (hw _ (List.mem_of_getElem? (i := 51) rfl)) (by decide) (W := 0) (argsL := [(.ref r4), (.ref b3), (.int (0 : Int32)), (.int (3 : Int32))]) (rest := []) (r := (.int (1 : Int32))) (fun _ _ _ q => q) (rm10a l Z a0 hw [] r4 b3 (0 : Int32) (3 : Int32) h4 n0 z_4 (by decide)) (by decide) (by decide) (by decide) (by decide) e7 (g := (mkF m 258 #[.val (.int p1), .val (.int p2), .val (.int p3), .val (.int p4), .val (.int p5), .val (.int (Int32.ofNat n)), .val (.int (0 : Int32)), .val (.int (0 : Int32)), .val (.int (0 : Int32)), .val (.ref b1), .val (.ref b3), .val (.int (0 : Int32)), .val (.ref r4)] [(.int (3 : Int32)), (.int (0 : Int32)), (.ref b3), (.ref r4)])) rfl (by rw [hml]; rfl) (lenOf pd_0_2 rfl) rfl (by show 2 * 0 + _ ≤ _; exact Nat.le_of_eq rfl) (hb hby at_258)
          refine Goes.step st8 ?_
          show Goes p e below s _ _ _ T8 (mkF m 261 #[.val (.int p1), .val (.int p2), .val (.int p3), .val (.int p4), .val (.int p5), .val (.int (Int32.ofNat n)), .val (.int (0 : Int32)), .val (.int (0 : Int32)), .val (.int (0 : Int32)), .val (.ref b1), .val (.ref b3), .val (.int (0 : Int32)), .val (.ref r4)] [(.int (1 : Int32))])
          refine Goes.step (fun _ k => XS.ifNo X8.here hx rfl (hb hby at_261) rfl ((if0 _ _).trans (feq (by decide : ¬ ((1 : Int32) = (0 : Int32)))).1) k) ?_
          show Goes p e below s _ _ _ T8 (mkF m 264 #[.val (.int p1), .val (.int p2), .val (.int p3), .val (.int p4), .val (.int p5), .val (.int (Int32.ofNat n)), .val (.int (0 : Int32)), .val (.int (0 : Int32)), .val (.int (0 : Int32)), .val (.ref b1), .val (.ref b3), .val (.int (0 : Int32)), .val (.ref r4)] [])
          refine Goes.step (fun _ k => XS.aload X8.here hx rfl (hb hby at_264) rfl rfl k) ?_
          show Goes p e below s _ _ _ T8 (mkF m 266 #[.val (.int p1), .val (.int p2), .val (.int p3), .val (.int p4), .val (.int p5), .val (.int (Int32.ofNat n)), .val (.int (0 : Int32)), .val (.int (0 : Int32)), .val (.int (0 : Int32)), .val (.ref b1), .val (.ref b3), .val (.int (0 : Int32)), .val (.ref r4)] [(.ref r4)])
          refine Goes.step (fun _ k => XS.aload X8.here hx rfl (hb hby at_266) rfl rfl k) ?_
          show Goes p e below s _ _ _ T8 (mkF m 268 #[.val (.int p1), .val (.int p2), .val (.int p3), .val (.int p4), .val (.int p5), .val (.int (Int32.ofNat n)), .val (.int (0 : Int32)), .val (.int (0 : Int32)), .val (.int (0 : Int32)), .val (.ref b1), .val (.ref b3), .val (.int (0 : Int32)), .val (.ref r4)] [(.ref b3), (.ref r4)])
          refine Goes.step (fun _ k => XS.iload X8.here hx rfl (hb hby at_268) rfl k) ?_
          show Goes p e below s _ _ _ T8 (mkF m 270 #[.val (.int p1), .val (.int p2), .val (.int p3), .val (.int p4), .val (.int p5), .val (.int (Int32.ofNat n)), .val (.int (0 : Int32)), .val (.int (0 : Int32)), .val (.int (0 : Int32)), .val (.ref b1), .val (.ref b3), .val (.int (0 : Int32)), .val (.ref r4)] [(.int (0 : Int32)), (.ref b3), (.ref r4)])
          refine Goes.step (fun _ k => XS.iconst X8.here hx rfl (hb hby at_270) k) ?_
          show Goes p e below s _ _ _ T8 (mkF m 271 #[.val (.int p1), .val (.int p2), .val (.int p3), .val (.int p4), .val (.int p5), .val (.int (Int32.ofNat n)), .val (.int (0 : Int32)), .val (.int (0 : Int32)), .val (.int (0 : Int32)), .val (.ref b1), .val (.ref b3), .val (.int (0 : Int32)), .val (.ref r4)] [(.int (4 : Int32)), (.int (0 : Int32)), (.ref b3), (.ref r4)])
          obtain ⟨T9, X9, e9, st9⟩ := callPure X8 hx hZ (y := (⟨"com/example/proxysmith/proxysmith/BytesToByteArrayPinLaw", "same", "([B[BII)Z"⟩ : MethodName)) hown (hw _ (List.mem_of_getElem? (i := 48) rfl)) (hw _ (List.mem_of_getElem? (i := 49) rfl)) (hw _ (List.mem_of_getElem? (i := 50) rfl)) (hw _ (List.mem_of_getElem? (i := 51) rfl)) (by decide) (W := 0) (argsL := [(.ref r4), (.ref b3), (.int (0 : Int32)), (.int (4 : Int32))]) (rest := []) (r := (.int (1 : Int32))) (fun _ _ _ q => q) (rm10a l Z a0 hw [] r4 b3 (0 : Int32) (4 : Int32) h4 n0 z_4 (by decide)) (by decide) (by decide) (by decide) (by decide) e8 (g := (mkF m 271 #[.val (.int p1), .val (.int p2), .val (.int p3), .val (.int p4), .val (.int p5), .val (.int (Int32.ofNat n)), .val (.int (0 : Int32)), .val (.int (0 : Int32)), .val (.int (0 : Int32)), .val (.ref b1), .val (.ref b3), .val (.int (0 : Int32)), .val (.ref r4)] [(.int (4 : Int32)), (.int (0 : Int32)), (.ref b3), (.ref r4)])) rfl (by rw [hml]; rfl) (lenOf pd_0_2 rfl) rfl (by show 2 * 0 + _ ≤ _; exact Nat.le_of_eq rfl) (hb hby at_271)
          refine Goes.step st9 ?_
          show Goes p e below s _ _ _ T9 (mkF m 274 #[.val (.int p1), .val (.int p2), .val (.int p3), .val (.int p4), .val (.int p5), .val (.int (Int32.ofNat n)), .val (.int (0 : Int32)), .val (.int (0 : Int32)), .val (.int (0 : Int32)), .val (.ref b1), .val (.ref b3), .val (.int (0 : Int32)), .val (.ref r4)] [(.int (1 : Int32))])
          refine Goes.step (fun _ k => XS.ifNo X9.here hx rfl (hb hby at_274) rfl ((if0 _ _).trans (feq (by decide : ¬ ((1 : Int32) = (0 : Int32)))).1) k) ?_
          show Goes p e below s _ _ _ T9 (mkF m 277 #[.val (.int p1), .val (.int p2), .val (.int p3), .val (.int p4), .val (.int p5), .val (.int (Int32.ofNat n)), .val (.int (0 : Int32)), .val (.int (0 : Int32)), .val (.int (0 : Int32)), .val (.ref b1), .val (.ref b3), .val (.int (0 : Int32)), .val (.ref r4)] [])
          refine Goes.step (fun _ k => XS.aload X9.here hx rfl (hb hby at_277) rfl rfl k) ?_
          show Goes p e below s _ _ _ T9 (mkF m 279 #[.val (.int p1), .val (.int p2), .val (.int p3), .val (.int p4), .val (.int p5), .val (.int (Int32.ofNat n)), .val (.int (0 : Int32)), .val (.int (0 : Int32)), .val (.int (0 : Int32)), .val (.ref b1), .val (.ref b3), .val (.int (0 : Int32)), .val (.ref r4)] [(.ref r4)])
          refine Goes.step (fun _ k => XS.aload X9.here hx rfl (hb hby at_279) rfl rfl k) ?_
          show Goes p e below s _ _ _ T9 (mkF m 281 #[.val (.int p1), .val (.int p2), .val (.int p3), .val (.int p4), .val (.int p5), .val (.int (Int32.ofNat n)), .val (.int (0 : Int32)), .val (.int (0 : Int32)), .val (.int (0 : Int32)), .val (.ref b1), .val (.ref b3), .val (.int (0 : Int32)), .val (.ref r4)] [(.ref b3), (.ref r4)])
          refine Goes.step (fun _ k => XS.iload X9.here hx rfl (hb hby at_281) rfl k) ?_
          show Goes p e below s _ _ _ T9 (mkF m 283 #[.val (.int p1), .val (.int p2), .val (.int p3), .val (.int p4), .val (.int p5), .val (.int (Int32.ofNat n)), .val (.int (0 : Int32)), .val (.int (0 : Int32)), .val (.int (0 : Int32)), .val (.ref b1), .val (.ref b3), .val (.int (0 : Int32)), .val (.ref r4)] [(.int (0 : Int32)), (.ref b3), (.ref r4)])
          refine Goes.step (fun _ k => XS.iconst X9.here hx rfl (hb hby at_283) k) ?_
          show Goes p e below s _ _ _ T9 (mkF m 284 #[.val (.int p1), .val (.int p2), .val (.int p3), .val (.int p4), .val (.int p5), .val (.int (Int32.ofNat n)), .val (.int (0 : Int32)), .val (.int (0 : Int32)), .val (.int (0 : Int32)), .val (.ref b1), .val (.ref b3), .val (.int (0 : Int32)), .val (.ref r4)] [(.int (5 : Int32)), (.int (0 : Int32)), (.ref b3), (.ref r4)])
          obtain ⟨T10, X10, e10, st10⟩ := callPure X9 hx hZ (y := (⟨"com/example/proxysmith/proxysmith/BytesToByteArrayPinLaw", "same", "([B[BII)Z"⟩ : MethodName)) hown (hw _ (List.mem_of_getElem? (i := 48) rfl)) (hw _ (List.mem_of_getElem? (i := 49) rfl)) (hw _ (List.mem_of_getElem? (i := 50) rfl)) (hw _ (List.mem_of_getElem? (i := 51) rfl)) (by decide) (W := 0) (argsL := [(.ref r4), (.ref b3), (.int (0 : Int32)), (.int (5 : Int32))]) (rest := []) (r := (.int (1 : Int32))) (fun _ _ _ q => q) (rm10a l Z a0 hw [] r4 b3 (0 : Int32) (5 : Int32) h4 n0 z_4 (by decide)) (by decide) (by decide) (by decide) (by decide) e9 (g := (mkF m 284 #[.val (.int p1), .val (.int p2), .val (.int p3), .val (.int p4), .val (.int p5), .val (.int (Int32.ofNat n)), .val (.int (0 : Int32)), .val (.int (0 : Int32)), .val (.int (0 : Int32)), .val (.ref b1), .val (.ref b3), .val (.int (0 : Int32)), .val (.ref r4)] [(.int (5 : Int32)), (.int (0 : Int32)), (.ref b3), (.ref r4)])) rfl (by rw [hml]; rfl) (lenOf pd_0_2 rfl) rfl (by show 2 * 0 + _ ≤ _; exact Nat.le_of_eq rfl) (hb hby at_284)
          refine Goes.step st10 ?_
          show Goes p e below s _ _ _ T10 (mkF m 287 #[.val (.int p1), .val (.int p2), .val (.int p3), .val (.int p4), .val (.int p5), .val (.int (Int32.ofNat n)), .val (.int (0 : Int32)), .val (.int (0 : Int32)), .val (.int (0 : Int32)), .val (.ref b1), .val (.ref b3), .val (.int (0 : Int32)), .val (.ref r4)] [(.int (1 : Int32))])
          refine Goes.step (fun _ k => XS.ifNo X10.here hx rfl (hb hby at_287) rfl ((if0 _ _).trans (feq (by decide : ¬ ((1 : Int32) = (0 : Int32)))).1) k) ?_
          show Goes p e below s _ _ _ T10 (mkF m 290 #[.val (.int p1), .val (.int p2), .val (.int p3), .val (.int p4), .val (.int p5), .val (.int (Int32.ofNat n)), .val (.int (0 : Int32)), .val (.int (0 : Int32)), .val (.int (0 : Int32)), .val (.ref b1), .val (.ref b3), .val (.int (0 : Int32)), .val (.ref r4)] [])
          refine Goes.step (fun _ k => XS.aload X10.here hx rfl (hb hby at_290) rfl rfl k) ?_
          show Goes p e below s _ _ _ T10 (mkF m 292 #[.val (.int p1), .val (.int p2), .val (.int p3), .val (.int p4), .val (.int p5), .val (.int (Int32.ofNat n)), .val (.int (0 : Int32)), .val (.int (0 : Int32)), .val (.int (0 : Int32)), .val (.ref b1), .val (.ref b3), .val (.int (0 : Int32)), .val (.ref r4)] [(.ref r4)])
          refine Goes.step (fun _ k => XS.aload X10.here hx rfl (hb hby at_292) rfl rfl k) ?_
          show Goes p e below s _ _ _ T10 (mkF m 294 #[.val (.int p1), .val (.int p2), .val (.int p3), .val (.int p4), .val (.int p5), .val (.int (Int32.ofNat n)), .val (.int (0 : Int32)), .val (.int (0 : Int32)), .val (.int (0 : Int32)), .val (.ref b1), .val (.ref b3), .val (.int (0 : Int32)), .val (.ref r4)] [(.ref b3), (.ref r4)])
          refine Goes.step (fun _ k => XS.iload X10.here hx rfl (hb hby at_294) rfl k) ?_
          show Goes p e below s _ _ _ T10 (mkF m 296 #[.val (.int p1), .val (.int p2), .val (.int p3), .val (.int p4), .val (.int p5), .val (.int (Int32.ofNat n)), .val (.int (0 : Int32)), .val (.int (0 : Int32)), .val (.int (0 : Int32)), .val (.ref b1), .val (.ref b3), .val (.int (0 : Int32)), .val (.ref r4)] [(.int (0 : Int32)), (.ref b3), (.ref r4)])
          refine Goes.step (fun _ k => XS.bipush X10.here hx rfl (hb hby at_296) k) ?_
          show Goes p e below s _ _ _ T10 (mkF m 298 #[.val (.int p1), .val (.int p2), .val (.int p3), .val (.int p4), .val (.int p5), .val (.int (Int32.ofNat n)), .val (.int (0 : Int32)), .val (.int (0 : Int32)), .val (.int (0 : Int32)), .val (.ref b1), .val (.ref b3), .val (.int (0 : Int32)), .val (.ref r4)] [(.int (6 : Int32)), (.int (0 : Int32)), (.ref b3), (.ref r4)])
          obtain ⟨T11, X11, e11, st11⟩ := callPure X10 hx hZ (y := (⟨"com/example/proxysmith/proxysmith/BytesToByteArrayPinLaw", "same", "([B[BII)Z"⟩ : MethodName)) hown (hw _ (List.mem_of_getElem? (i := 48) rfl)) (hw _ (List.mem_of_getElem? (i := 49) rfl)) (hw _ (List.mem_of_getElem? (i := 50) rfl)) (hw _ (List.mem_of_getElem? (i := 51) rfl)) (by decide) (W := 0) (argsL := [(.ref r4), (.ref b3), (.int (0 : Int32)), (.int (6 : Int32))]) (rest := []) (r := (.int (1 : Int32))) (fun _ _ _ q => q) (rm10a l Z a0 hw [] r4 b3 (0 : Int32) (6 : Int32) h4 n0 z_4 (by decide)) (by decide) (by decide) (by decide) (by decide) e10 (g := (mkF m 298 #[.val (.int p1), .val (.int p2), .val (.int p3), .val (.int p4), .val (.int p5), .val (.int (Int32.ofNat n)), .val (.int (0 : Int32)), .val (.int (0 : Int32)), .val (.int (0 : Int32)), .val (.ref b1), .val (.ref b3), .val (.int (0 : Int32)), .val (.ref r4)] [(.int (6 : Int32)), (.int (0 : Int32)), (.ref b3), (.ref r4)])) rfl (by rw [hml]; rfl) (lenOf pd_0_2 rfl) rfl (by show 2 * 0 + _ ≤ _; exact Nat.le_of_eq rfl) (hb hby at_298)
          refine Goes.step st11 ?_
          show Goes p e below s _ _ _ T11 (mkF m 301 #[.val (.int p1), .val (.int p2), .val (.int p3), .val (.int p4), .val (.int p5), .val (.int (Int32.ofNat n)), .val (.int (0 : Int32)), .val (.int (0 : Int32)), .val (.int (0 : Int32)), .val (.ref b1), .val (.ref b3), .val (.int (0 : Int32)), .val (.ref r4)] [(.int (1 : Int32))])
          refine Goes.step (fun _ k => XS.ifNo X11.here hx rfl (hb hby at_301) rfl ((if0 _ _).trans (feq (by decide : ¬ ((1 : Int32) = (0 : Int32)))).1) k) ?_
          show Goes p e below s _ _ _ T11 (mkF m 304 #[.val (.int p1), .val (.int p2), .val (.int p3), .val (.int p4), .val (.int p5), .val (.int (Int32.ofNat n)), .val (.int (0 : Int32)), .val (.int (0 : Int32)), .val (.int (0 : Int32)), .val (.ref b1), .val (.ref b3), .val (.int (0 : Int32)), .val (.ref r4)] [])
          refine Goes.step (fun _ k => XS.iconst X11.here hx rfl (hb hby at_304) k) ?_
          show Goes p e below s _ _ _ T11 (mkF m 305 #[.val (.int p1), .val (.int p2), .val (.int p3), .val (.int p4), .val (.int p5), .val (.int (Int32.ofNat n)), .val (.int (0 : Int32)), .val (.int (0 : Int32)), .val (.int (0 : Int32)), .val (.ref b1), .val (.ref b3), .val (.int (0 : Int32)), .val (.ref r4)] [(.int (1 : Int32))])
          refine Goes.step (fun _ k => XS.goto X11.here hx rfl (pc0 := 305) (pc' := 309) rfl (hb hby at_305) (by decide) (by decide) k) ?_
          show Goes p e below s _ _ _ T11 (mkF m 309 #[.val (.int p1), .val (.int p2), .val (.int p3), .val (.int p4), .val (.int p5), .val (.int (Int32.ofNat n)), .val (.int (0 : Int32)), .val (.int (0 : Int32)), .val (.int (0 : Int32)), .val (.ref b1), .val (.ref b3), .val (.int (0 : Int32)), .val (.ref r4)] [(.int (1 : Int32))])
          exact Goes.outN X11 hx hlk (t := .boolean) Bd.returns (by simp) (hb hby at_309) ⟨rfl, N_4⟩ (by decide) (by decide)
      · refine Goes.step (fun _ k => XS.ifNo X0.here hx rfl (hb hby at_35) rfl ((if0 _ _).trans (feq hc35).1) k) ?_
        show Goes p e below s _ _ _ s₁ (mkF m 38 #[.val (.int p1), .val (.int p2), .val (.int p3), .val (.int p4), .val (.int p5), .val (.int (Int32.ofNat n)), .val (.int (0 : Int32)), .val (.int (0 : Int32)), .unset, .unset, .unset, .unset, .unset] [])
        refine Goes.step (fun _ k => XS.iconst X0.here hx rfl (hb hby at_38) k) ?_
        show Goes p e below s _ _ _ s₁ (mkF m 39 #[.val (.int p1), .val (.int p2), .val (.int p3), .val (.int p4), .val (.int p5), .val (.int (Int32.ofNat n)), .val (.int (0 : Int32)), .val (.int (0 : Int32)), .unset, .unset, .unset, .unset, .unset] [(.int (1 : Int32))])
        refine Goes.step (fun _ k => XS.goto X0.here hx rfl (pc0 := 39) (pc' := 43) rfl (hb hby at_39) (by decide) (by decide) k) ?_
        show Goes p e below s _ _ _ s₁ (mkF m 43 #[.val (.int p1), .val (.int p2), .val (.int p3), .val (.int p4), .val (.int p5), .val (.int (Int32.ofNat n)), .val (.int (0 : Int32)), .val (.int (0 : Int32)), .unset, .unset, .unset, .unset, .unset] [(.int (1 : Int32))])
        refine Goes.step (fun _ k => XS.istore X0.here hx rfl (hb hby at_43) rfl (l' := #[.val (.int p1), .val (.int p2), .val (.int p3), .val (.int p4), .val (.int p5), .val (.int (Int32.ofNat n)), .val (.int (0 : Int32)), .val (.int (0 : Int32)), .val (.int (1 : Int32)), .unset, .unset, .unset, .unset]) rfl k) ?_
        show Goes p e below s _ _ _ s₁ (mkF m 45 #[.val (.int p1), .val (.int p2), .val (.int p3), .val (.int p4), .val (.int p5), .val (.int (Int32.ofNat n)), .val (.int (0 : Int32)), .val (.int (0 : Int32)), .val (.int (1 : Int32)), .unset, .unset, .unset, .unset] [])
        obtain ⟨T12, h12, X12, e12, E12, A12, D12, -, st12⟩ := newO X0 hx hZ hown (hw _ (List.mem_of_getElem? (i := 0) rfl)) (hw _ (List.mem_of_getElem? (i := 1) rfl)) (hw _ (List.mem_of_getElem? (i := 2) rfl)) e0 (g := (mkF m 45 #[.val (.int p1), .val (.int p2), .val (.int p3), .val (.int p4), .val (.int p5), .val (.int (Int32.ofNat n)), .val (.int (0 : Int32)), .val (.int (0 : Int32)), .val (.int (1 : Int32)), .unset, .unset, .unset, .unset] [])) rfl (hb hby at_45) (by decide) (by decide)
        obtain ⟨b12, g_12⟩ : ∃ z, z = h0.size := ⟨_, rfl⟩
        rw [← g_12] at A12 D12 st12
        refine Goes.step st12 ?_
        have ge_b12 : n0 ≤ b12 := by rw [g_12]; exact Z0
        have sz_b12 : h0.size ≤ b12 := by rw [g_12]; exact K0.1
        have z_12 : n0 ≤ h12.size := Nat.le_trans Z0 E12.1
        have K_12 : Keep h0 h12 [] := K0.ext E12
        have E_b12_12 : Exa Z h12 b12 "com/example/proxysmith/proxysmith/ClassFileWriter$Bytes" := A12
        have F_b12_bytes_12 : Fld Z h12 b12 "com/example/proxysmith/proxysmith/ClassFileWriter$Bytes" "bytes" "[B" .null := D12 (Or.inl (hw _ (List.mem_of_getElem? (i := 11) rfl))) (ty := (.array .byte)) (by decide)
        have F_b12_size_12 : Fld Z h12 b12 "com/example/proxysmith/proxysmith/ClassFileWriter$Bytes" "size" "I" (.int (0 : Int32)) := D12 (Or.inl (hw _ (List.mem_of_getElem? (i := 22) rfl))) (ty := .int) (by decide)
        show Goes p e below s _ _ _ T12 (mkF m 48 #[.val (.int p1), .val (.int p2), .val (.int p3), .val (.int p4), .val (.int p5), .val (.int (Int32.ofNat n)), .val (.int (0 : Int32)), .val (.int (0 : Int32)), .val (.int (1 : Int32)), .unset, .unset, .unset, .unset] [(.ref b12)])
        refine Goes.step (fun _ k => XS.dup X12.here hx rfl (hb hby at_48) rfl rfl k) ?_
        show Goes p e below s _ _ _ T12 (mkF m 49 #[.val (.int p1), .val (.int p2), .val (.int p3), .val (.int p4), .val (.int p5), .val (.int (Int32.ofNat n)), .val (.int (0 : Int32)), .val (.int (0 : Int32)), .val (.int (1 : Int32)), .unset, .unset, .unset, .unset] [(.ref b12), (.ref b12)])
        refine Goes.step (fun _ k => XS.iload X12.here hx rfl (hb hby at_49) rfl k) ?_
        show Goes p e below s _ _ _ T12 (mkF m 51 #[.val (.int p1), .val (.int p2), .val (.int p3), .val (.int p4), .val (.int p5), .val (.int (Int32.ofNat n)), .val (.int (0 : Int32)), .val (.int (0 : Int32)), .val (.int (1 : Int32)), .unset, .unset, .unset, .unset] [(.int (Int32.ofNat n)), (.ref b12), (.ref b12)])
        obtain ⟨v13, T13, h13, L13, X13, e13, Q13, st13⟩ := callXI X12 hx hZ (b := b12) (y := (⟨"com/example/proxysmith/proxysmith/ClassFileWriter$Bytes", "<init>", "(I)V"⟩ : MethodName)) hown rfl (hw _ (List.mem_of_getElem? (i := 3) rfl)) (hw _ (List.mem_of_getElem? (i := 4) rfl)) (hw _ (List.mem_of_getElem? (i := 5) rfl)) (hw _ (List.mem_of_getElem? (i := 2) rfl)) (by decide) (W := 1) (argsL := [(.int (Int32.ofNat n))]) (rest := [(.ref b12)]) (rm1 l Z a0 hw [] b12 n h12 n0 z_12 E_b12_12 F_b12_bytes_12 F_b12_size_12 ge_b12 hn) (by decide) (by decide) (by decide) (by decide) e12 (g := (mkF m 51 #[.val (.int p1), .val (.int p2), .val (.int p3), .val (.int p4), .val (.int p5), .val (.int (Int32.ofNat n)), .val (.int (0 : Int32)), .val (.int (0 : Int32)), .val (.int (1 : Int32)), .unset, .unset, .unset, .unset] [(.int (Int32.ofNat n)), (.ref b12), (.ref b12)])) rfl (by rw [hml]; rfl) (lenOf pd_0_0 rfl) rfl (by show 2 * 0 + _ ≤ _; exact Nat.le_of_eq rfl) (hb hby at_51)
        obtain ⟨b13, rfl, NQ13, KQ13, hE13, hFb13, hFs13, hA13, hab13, hg13, hb13⟩ := Q13
        refine Goes.step st13 ?_
        have E_b12_13 := E_b12_12.keep KQ13
        have z_13 : n0 ≤ h13.size := Nat.le_trans z_12 KQ13.1
        have K_13 : Keep h0 h13 [] := Keep.trans K_12 KQ13 (allS (Or.inr sz_b12) all0)
        have N_13 := Fr.app N0 NQ13
        show Goes p e below s _ _ _ T13 (mkF m 54 #[.val (.int p1), .val (.int p2), .val (.int p3), .val (.int p4), .val (.int p5), .val (.int (Int32.ofNat n)), .val (.int (0 : Int32)), .val (.int (0 : Int32)), .val (.int (1 : Int32)), .unset, .unset, .unset, .unset] [(.ref b12)])
        refine Goes.step (fun _ k => XS.astore X13.here hx rfl (hb hby at_54) rfl rfl (l' := #[.val (.int p1), .val (.int p2), .val (.int p3), .val (.int p4), .val (.int p5), .val (.int (Int32.ofNat n)), .val (.int (0 : Int32)), .val (.int (0 : Int32)), .val (.int (1 : Int32)), .val (.ref b12), .unset, .unset, .unset]) rfl k) ?_
        show Goes p e below s _ _ _ T13 (mkF m 56 #[.val (.int p1), .val (.int p2), .val (.int p3), .val (.int p4), .val (.int p5), .val (.int (Int32.ofNat n)), .val (.int (0 : Int32)), .val (.int (0 : Int32)), .val (.int (1 : Int32)), .val (.ref b12), .unset, .unset, .unset] [])
        refine Goes.step (fun _ k => XS.bipush X13.here hx rfl (hb hby at_56) k) ?_
        show Goes p e below s _ _ _ T13 (mkF m 58 #[.val (.int p1), .val (.int p2), .val (.int p3), .val (.int p4), .val (.int p5), .val (.int (Int32.ofNat n)), .val (.int (0 : Int32)), .val (.int (0 : Int32)), .val (.int (1 : Int32)), .val (.ref b12), .unset, .unset, .unset] [(.int (7 : Int32))])
        obtain ⟨T14, h14, X14, e14, E14, A14, st14⟩ := newI X13 hx hZ (hw _ (List.mem_of_getElem? (i := 9) rfl)) e13 (g := (mkF m 58 #[.val (.int p1), .val (.int p2), .val (.int p3), .val (.int p4), .val (.int p5), .val (.int (Int32.ofNat n)), .val (.int (0 : Int32)), .val (.int (0 : Int32)), .val (.int (1 : Int32)), .val (.ref b12), .unset, .unset, .unset] [(.int (7 : Int32))])) rfl (hb hby at_58) rfl (N := 7) rfl (cap := 7) (by decide) (by decide) (by decide) (by decide) rfl (by decide)
        obtain ⟨b14, g_14⟩ : ∃ z, z = h13.size := ⟨_, rfl⟩
        rw [← g_14] at A14 st14
        refine Goes.step st14 ?_
        have ne_b12_b14 : b12 ≠ b14 := Nat.ne_of_lt (by rw [g_14]; exact hE13.lt)
        have ne_b13_b14 : b13 ≠ b14 := Nat.ne_of_lt (by rw [g_14]; exact hA13.lt)
        have ge_b14 : n0 ≤ b14 := by rw [g_14]; exact z_13
        have sz_b14 : h0.size ≤ b14 := by rw [g_14]; exact K_13.1
        have hE13_14 := hE13.ext E14
        have hFb13_14 := hFb13.ext E14
        have hFs13_14 := hFs13.ext E14
        have hA13_14 := hA13.ext E14
        have z_14 : n0 ≤ h14.size := Nat.le_trans z_13 E14.1
        have K_14 : Keep h0 h14 [] := K_13.ext E14
        have A_b14_14 : Ari Z h14 b14 .byte (7) (fun _ => 0) := A14
        show Goes p e below s _ _ _ T14 (mkF m 60 #[.val (.int p1), .val (.int p2), .val (.int p3), .val (.int p4), .val (.int p5), .val (.int (Int32.ofNat n)), .val (.int (0 : Int32)), .val (.int (0 : Int32)), .val (.int (1 : Int32)), .val (.ref b12), .unset, .unset, .unset] [(.ref b14)])
        refine Goes.step (fun _ k => XS.astore X14.here hx rfl (hb hby at_60) rfl rfl (l' := #[.val (.int p1), .val (.int p2), .val (.int p3), .val (.int p4), .val (.int p5), .val (.int (Int32.ofNat n)), .val (.int (0 : Int32)), .val (.int (0 : Int32)), .val (.int (1 : Int32)), .val (.ref b12), .val (.ref b14), .unset, .unset]) rfl k) ?_
        show Goes p e below s _ _ _ T14 (mkF m 62 #[.val (.int p1), .val (.int p2), .val (.int p3), .val (.int p4), .val (.int p5), .val (.int (Int32.ofNat n)), .val (.int (0 : Int32)), .val (.int (0 : Int32)), .val (.int (1 : Int32)), .val (.ref b12), .val (.ref b14), .unset, .unset] [])
        refine Goes.step (fun _ k => XS.iconst X14.here hx rfl (hb hby at_62) k) ?_
        show Goes p e below s _ _ _ T14 (mkF m 63 #[.val (.int p1), .val (.int p2), .val (.int p3), .val (.int p4), .val (.int p5), .val (.int (Int32.ofNat n)), .val (.int (0 : Int32)), .val (.int (0 : Int32)), .val (.int (1 : Int32)), .val (.ref b12), .val (.ref b14), .unset, .unset] [(.int (0 : Int32))])
        refine Goes.step (fun _ k => XS.istore X14.here hx rfl (hb hby at_63) rfl (l' := #[.val (.int p1), .val (.int p2), .val (.int p3), .val (.int p4), .val (.int p5), .val (.int (Int32.ofNat n)), .val (.int (0 : Int32)), .val (.int (0 : Int32)), .val (.int (1 : Int32)), .val (.ref b12), .val (.ref b14), .val (.int (0 : Int32)), .unset]) rfl k) ?_
        show Goes p e below s _ _ _ T14 (mkF m 65 #[.val (.int p1), .val (.int p2), .val (.int p3), .val (.int p4), .val (.int p5), .val (.int (Int32.ofNat n)), .val (.int (0 : Int32)), .val (.int (0 : Int32)), .val (.int (1 : Int32)), .val (.ref b12), .val (.ref b14), .val (.int (0 : Int32)), .unset] [])
        refine Goes.step (fun _ k => XS.iload X14.here hx rfl (hb hby at_65) rfl k) ?_
        show Goes p e below s _ _ _ T14 (mkF m 67 #[.val (.int p1), .val (.int p2), .val (.int p3), .val (.int p4), .val (.int p5), .val (.int (Int32.ofNat n)), .val (.int (0 : Int32)), .val (.int (0 : Int32)), .val (.int (1 : Int32)), .val (.ref b12), .val (.ref b14), .val (.int (0 : Int32)), .unset] [(.int (0 : Int32))])
        refine Goes.step (fun _ k => XS.ifYes X14.here hx rfl (pc0 := 67) (pc' := 89) rfl (hb hby at_67) rfl ((if0 _ _).trans (teq (by decide : (0 : Int32) = (0 : Int32))).1) (by decide) (by decide) k) ?_
        show Goes p e below s _ _ _ T14 (mkF m 89 #[.val (.int p1), .val (.int p2), .val (.int p3), .val (.int p4), .val (.int p5), .val (.int (Int32.ofNat n)), .val (.int (0 : Int32)), .val (.int (0 : Int32)), .val (.int (1 : Int32)), .val (.ref b12), .val (.ref b14), .val (.int (0 : Int32)), .unset] [])
        refine Goes.step (fun _ k => XS.iload X14.here hx rfl (hb hby at_89) rfl k) ?_
        show Goes p e below s _ _ _ T14 (mkF m 91 #[.val (.int p1), .val (.int p2), .val (.int p3), .val (.int p4), .val (.int p5), .val (.int (Int32.ofNat n)), .val (.int (0 : Int32)), .val (.int (0 : Int32)), .val (.int (1 : Int32)), .val (.ref b12), .val (.ref b14), .val (.int (0 : Int32)), .unset] [(.int (0 : Int32))])
        refine Goes.step (fun _ k => XS.ifYes X14.here hx rfl (pc0 := 91) (pc' := 125) rfl (hb hby at_91) rfl ((if0 _ _).trans (teq (by decide : (0 : Int32) = (0 : Int32))).1) (by decide) (by decide) k) ?_
        show Goes p e below s _ _ _ T14 (mkF m 125 #[.val (.int p1), .val (.int p2), .val (.int p3), .val (.int p4), .val (.int p5), .val (.int (Int32.ofNat n)), .val (.int (0 : Int32)), .val (.int (0 : Int32)), .val (.int (1 : Int32)), .val (.ref b12), .val (.ref b14), .val (.int (0 : Int32)), .unset] [])
        refine Goes.step (fun _ k => XS.iload X14.here hx rfl (hb hby at_125) rfl k) ?_
        show Goes p e below s _ _ _ T14 (mkF m 127 #[.val (.int p1), .val (.int p2), .val (.int p3), .val (.int p4), .val (.int p5), .val (.int (Int32.ofNat n)), .val (.int (0 : Int32)), .val (.int (0 : Int32)), .val (.int (1 : Int32)), .val (.ref b12), .val (.ref b14), .val (.int (0 : Int32)), .unset] [(.int (1 : Int32))])
        refine Goes.step (fun _ k => XS.ifNo X14.here hx rfl (hb hby at_127) rfl ((if0 _ _).trans (feq (by decide : ¬ ((1 : Int32) = (0 : Int32)))).1) k) ?_
        show Goes p e below s _ _ _ T14 (mkF m 130 #[.val (.int p1), .val (.int p2), .val (.int p3), .val (.int p4), .val (.int p5), .val (.int (Int32.ofNat n)), .val (.int (0 : Int32)), .val (.int (0 : Int32)), .val (.int (1 : Int32)), .val (.ref b12), .val (.ref b14), .val (.int (0 : Int32)), .unset] [])
        refine Goes.step (fun _ k => XS.aload X14.here hx rfl (hb hby at_130) rfl rfl k) ?_
        show Goes p e below s _ _ _ T14 (mkF m 132 #[.val (.int p1), .val (.int p2), .val (.int p3), .val (.int p4), .val (.int p5), .val (.int (Int32.ofNat n)), .val (.int (0 : Int32)), .val (.int (0 : Int32)), .val (.int (1 : Int32)), .val (.ref b12), .val (.ref b14), .val (.int (0 : Int32)), .unset] [(.ref b14)])
        refine Goes.step (fun _ k => XS.iload X14.here hx rfl (hb hby at_132) rfl k) ?_
        show Goes p e below s _ _ _ T14 (mkF m 134 #[.val (.int p1), .val (.int p2), .val (.int p3), .val (.int p4), .val (.int p5), .val (.int (Int32.ofNat n)), .val (.int (0 : Int32)), .val (.int (0 : Int32)), .val (.int (1 : Int32)), .val (.ref b12), .val (.ref b14), .val (.int (0 : Int32)), .unset] [(.int (0 : Int32)), (.ref b14)])
        refine Goes.step (fun _ k => XS.iload X14.here hx rfl (hb hby at_134) rfl k) ?_
        show Goes p e below s _ _ _ T14 (mkF m 136 #[.val (.int p1), .val (.int p2), .val (.int p3), .val (.int p4), .val (.int p5), .val (.int (Int32.ofNat n)), .val (.int (0 : Int32)), .val (.int (0 : Int32)), .val (.int (1 : Int32)), .val (.ref b12), .val (.ref b14), .val (.int (0 : Int32)), .unset] [(.int p5), (.int (0 : Int32)), (.ref b14)])
        refine Goes.step (fun _ k => XS.bipush X14.here hx rfl (hb hby at_136) k) ?_
        show Goes p e below s _ _ _ T14 (mkF m 138 #[.val (.int p1), .val (.int p2), .val (.int p3), .val (.int p4), .val (.int p5), .val (.int (Int32.ofNat n)), .val (.int (0 : Int32)), .val (.int (0 : Int32)), .val (.int (1 : Int32)), .val (.ref b12), .val (.ref b14), .val (.int (0 : Int32)), .unset] [(.int (24 : Int32)), (.int p5), (.int (0 : Int32)), (.ref b14)])
        refine Goes.step (fun _ k => XS.iushr X14.here hx rfl (hb hby at_138) rfl k) ?_
        show Goes p e below s _ _ _ T14 (mkF m 139 #[.val (.int p1), .val (.int p2), .val (.int p3), .val (.int p4), .val (.int p5), .val (.int (Int32.ofNat n)), .val (.int (0 : Int32)), .val (.int (0 : Int32)), .val (.int (1 : Int32)), .val (.ref b12), .val (.ref b14), .val (.int (0 : Int32)), .unset] [(.int ((p5.toUInt32 >>> ((24 : Int32) &&& 31).toUInt32).toInt32)), (.int (0 : Int32)), (.ref b14)])
        refine Goes.step (fun _ k => XS.i2b X14.here hx rfl (hb hby at_139) rfl k) ?_
        show Goes p e below s _ _ _ T14 (mkF m 140 #[.val (.int p1), .val (.int p2), .val (.int p3), .val (.int p4), .val (.int p5), .val (.int (Int32.ofNat n)), .val (.int (0 : Int32)), .val (.int (0 : Int32)), .val (.int (1 : Int32)), .val (.ref b12), .val (.ref b14), .val (.int (0 : Int32)), .unset] [(.int (((p5.toUInt32 >>> ((24 : Int32) &&& 31).toUInt32).toInt32).toInt8.toInt32)), (.int (0 : Int32)), (.ref b14)])
        obtain ⟨T15, h15, X15, e15, W15, A15, st15⟩ := stoB X14 hx hZ e14 A_b14_14 (0) rfl (by decide) (g := (mkF m 140 #[.val (.int p1), .val (.int p2), .val (.int p3), .val (.int p4), .val (.int p5), .val (.int (Int32.ofNat n)), .val (.int (0 : Int32)), .val (.int (0 : Int32)), .val (.int (1 : Int32)), .val (.ref b12), .val (.ref b14), .val (.int (0 : Int32)), .unset] [(.int (((p5.toUInt32 >>> ((24 : Int32) &&& 31).toUInt32).toInt32).toInt8.toInt32)), (.int (0 : Int32)), (.ref b14)])) rfl rfl (hb hby at_140)
        refine Goes.step st15 ?_
        have hE13_15 := hE13_14.wr W15
        have hFb13_15 := hFb13_14.other W15 (Or.inl ne_b12_b14)
        have hFs13_15 := hFs13_14.other W15 (Or.inl ne_b12_b14)
        have hA13_15 := hA13_14.other W15 ne_b13_b14
        have z_15 : n0 ≤ h15.size := by rw [W15.size]; exact z_14
        have K_15 : Keep h0 h15 [] := K_14.wr W15 (Or.inr sz_b14)
        have N_15 := Fr.snoc X15 N_13 ge_b14
        have A_b14_15 : Ari Z h15 b14 .byte (7) (updI (fun _ => 0) (0) ((((p5.toUInt32 >>> ((24 : Int32) &&& 31).toUInt32).toInt32).toInt8.toInt32).toInt8.toInt32)) := A15
        show Goes p e below s _ _ _ T15 (mkF m 141 #[.val (.int p1), .val (.int p2), .val (.int p3), .val (.int p4), .val (.int p5), .val (.int (Int32.ofNat n)), .val (.int (0 : Int32)), .val (.int (0 : Int32)), .val (.int (1 : Int32)), .val (.ref b12), .val (.ref b14), .val (.int (0 : Int32)), .unset] [])
        refine Goes.step (fun _ k => XS.aload X15.here hx rfl (hb hby at_141) rfl rfl k) ?_
        show Goes p e below s _ _ _ T15 (mkF m 143 #[.val (.int p1), .val (.int p2), .val (.int p3), .val (.int p4), .val (.int p5), .val (.int (Int32.ofNat n)), .val (.int (0 : Int32)), .val (.int (0 : Int32)), .val (.int (1 : Int32)), .val (.ref b12), .val (.ref b14), .val (.int (0 : Int32)), .unset] [(.ref b14)])
        refine Goes.step (fun _ k => XS.iload X15.here hx rfl (hb hby at_143) rfl k) ?_
        show Goes p e below s _ _ _ T15 (mkF m 145 #[.val (.int p1), .val (.int p2), .val (.int p3), .val (.int p4), .val (.int p5), .val (.int (Int32.ofNat n)), .val (.int (0 : Int32)), .val (.int (0 : Int32)), .val (.int (1 : Int32)), .val (.ref b12), .val (.ref b14), .val (.int (0 : Int32)), .unset] [(.int (0 : Int32)), (.ref b14)])
        refine Goes.step (fun _ k => XS.iconst X15.here hx rfl (hb hby at_145) k) ?_
        show Goes p e below s _ _ _ T15 (mkF m 146 #[.val (.int p1), .val (.int p2), .val (.int p3), .val (.int p4), .val (.int p5), .val (.int (Int32.ofNat n)), .val (.int (0 : Int32)), .val (.int (0 : Int32)), .val (.int (1 : Int32)), .val (.ref b12), .val (.ref b14), .val (.int (0 : Int32)), .unset] [(.int (1 : Int32)), (.int (0 : Int32)), (.ref b14)])
        refine Goes.step (fun _ k => XS.iadd X15.here hx rfl (hb hby at_146) rfl k) ?_
        show Goes p e below s _ _ _ T15 (mkF m 147 #[.val (.int p1), .val (.int p2), .val (.int p3), .val (.int p4), .val (.int p5), .val (.int (Int32.ofNat n)), .val (.int (0 : Int32)), .val (.int (0 : Int32)), .val (.int (1 : Int32)), .val (.ref b12), .val (.ref b14), .val (.int (0 : Int32)), .unset] [(.int (1 : Int32)), (.ref b14)])
        refine Goes.step (fun _ k => XS.iload X15.here hx rfl (hb hby at_147) rfl k) ?_
        show Goes p e below s _ _ _ T15 (mkF m 149 #[.val (.int p1), .val (.int p2), .val (.int p3), .val (.int p4), .val (.int p5), .val (.int (Int32.ofNat n)), .val (.int (0 : Int32)), .val (.int (0 : Int32)), .val (.int (1 : Int32)), .val (.ref b12), .val (.ref b14), .val (.int (0 : Int32)), .unset] [(.int p5), (.int (1 : Int32)), (.ref b14)])
        refine Goes.step (fun _ k => XS.bipush X15.here hx rfl (hb hby at_149) k) ?_
        show Goes p e below s _ _ _ T15 (mkF m 151 #[.val (.int p1), .val (.int p2), .val (.int p3), .val (.int p4), .val (.int p5), .val (.int (Int32.ofNat n)), .val (.int (0 : Int32)), .val (.int (0 : Int32)), .val (.int (1 : Int32)), .val (.ref b12), .val (.ref b14), .val (.int (0 : Int32)), .unset] [(.int (16 : Int32)), (.int p5), (.int (1 : Int32)), (.ref b14)])
        refine Goes.step (fun _ k => XS.iushr X15.here hx rfl (hb hby at_151) rfl k) ?_
        show Goes p e below s _ _ _ T15 (mkF m 152 #[.val (.int p1), .val (.int p2), .val (.int p3), .val (.int p4), .val (.int p5), .val (.int (Int32.ofNat n)), .val (.int (0 : Int32)), .val (.int (0 : Int32)), .val (.int (1 : Int32)), .val (.ref b12), .val (.ref b14), .val (.int (0 : Int32)), .unset] [(.int ((p5.toUInt32 >>> ((16 : Int32) &&& 31).toUInt32).toInt32)), (.int (1 : Int32)), (.ref b14)])
        refine Goes.step (fun _ k => XS.i2b X15.here hx rfl (hb hby at_152) rfl k) ?_
        show Goes p e below s _ _ _ T15 (mkF m 153 #[.val (.int p1), .val (.int p2), .val (.int p3), .val (.int p4), .val (.int p5), .val (.int (Int32.ofNat n)), .val (.int (0 : Int32)), .val (.int (0 : Int32)), .val (.int (1 : Int32)), .val (.ref b12), .val (.ref b14), .val (.int (0 : Int32)), .unset] [(.int (((p5.toUInt32 >>> ((16 : Int32) &&& 31).toUInt32).toInt32).toInt8.toInt32)), (.int (1 : Int32)), (.ref b14)])
        obtain ⟨T16, h16, X16, e16, W16, A16, st16⟩ := stoB X15 hx hZ e15 A_b14_15 (1) rfl (by decide) (g := (mkF m 153 #[.val (.int p1), .val (.int p2), .val (.int p3), .val (.int p4), .val (.int p5), .val (.int (Int32.ofNat n)), .val (.int (0 : Int32)), .val (.int (0 : Int32)), .val (.int (1 : Int32)), .val (.ref b12), .val (.ref b14), .val (.int (0 : Int32)), .unset] [(.int (((p5.toUInt32 >>> ((16 : Int32) &&& 31).toUInt32).toInt32).toInt8.toInt32)), (.int (1 : Int32)), (.ref b14)])) rfl rfl (hb hby at_153)
        refine Goes.step st16 ?_
        have hE13_16 := hE13_15.wr W16
        have hFb13_16 := hFb13_15.other W16 (Or.inl ne_b12_b14)
        have hFs13_16 := hFs13_15.other W16 (Or.inl ne_b12_b14)
        have hA13_16 := hA13_15.other W16 ne_b13_b14
        have z_16 : n0 ≤ h16.size := by rw [W16.size]; exact z_15
        have K_16 : Keep h0 h16 [] := K_15.wr W16 (Or.inr sz_b14)
        have N_16 := Fr.snoc X16 N_15 ge_b14
        have A_b14_16 : Ari Z h16 b14 .byte (7) (updI (updI (fun _ => 0) (0) ((((p5.toUInt32 >>> ((24 : Int32) &&& 31).toUInt32).toInt32).toInt8.toInt32).toInt8.toInt32)) (1) ((((p5.toUInt32 >>> ((16 : Int32) &&& 31).toUInt32).toInt32).toInt8.toInt32).toInt8.toInt32)) := A16
        show Goes p e below s _ _ _ T16 (mkF m 154 #[.val (.int p1), .val (.int p2), .val (.int p3), .val (.int p4), .val (.int p5), .val (.int (Int32.ofNat n)), .val (.int (0 : Int32)), .val (.int (0 : Int32)), .val (.int (1 : Int32)), .val (.ref b12), .val (.ref b14), .val (.int (0 : Int32)), .unset] [])
        refine Goes.step (fun _ k => XS.aload X16.here hx rfl (hb hby at_154) rfl rfl k) ?_
        show Goes p e below s _ _ _ T16 (mkF m 156 #[.val (.int p1), .val (.int p2), .val (.int p3), .val (.int p4), .val (.int p5), .val (.int (Int32.ofNat n)), .val (.int (0 : Int32)), .val (.int (0 : Int32)), .val (.int (1 : Int32)), .val (.ref b12), .val (.ref b14), .val (.int (0 : Int32)), .unset] [(.ref b14)])
        refine Goes.step (fun _ k => XS.iload X16.here hx rfl (hb hby at_156) rfl k) ?_
        show Goes p e below s _ _ _ T16 (mkF m 158 #[.val (.int p1), .val (.int p2), .val (.int p3), .val (.int p4), .val (.int p5), .val (.int (Int32.ofNat n)), .val (.int (0 : Int32)), .val (.int (0 : Int32)), .val (.int (1 : Int32)), .val (.ref b12), .val (.ref b14), .val (.int (0 : Int32)), .unset] [(.int (0 : Int32)), (.ref b14)])
        refine Goes.step (fun _ k => XS.iconst X16.here hx rfl (hb hby at_158) k) ?_
        show Goes p e below s _ _ _ T16 (mkF m 159 #[.val (.int p1), .val (.int p2), .val (.int p3), .val (.int p4), .val (.int p5), .val (.int (Int32.ofNat n)), .val (.int (0 : Int32)), .val (.int (0 : Int32)), .val (.int (1 : Int32)), .val (.ref b12), .val (.ref b14), .val (.int (0 : Int32)), .unset] [(.int (2 : Int32)), (.int (0 : Int32)), (.ref b14)])
        refine Goes.step (fun _ k => XS.iadd X16.here hx rfl (hb hby at_159) rfl k) ?_
        show Goes p e below s _ _ _ T16 (mkF m 160 #[.val (.int p1), .val (.int p2), .val (.int p3), .val (.int p4), .val (.int p5), .val (.int (Int32.ofNat n)), .val (.int (0 : Int32)), .val (.int (0 : Int32)), .val (.int (1 : Int32)), .val (.ref b12), .val (.ref b14), .val (.int (0 : Int32)), .unset] [(.int (2 : Int32)), (.ref b14)])
        refine Goes.step (fun _ k => XS.iload X16.here hx rfl (hb hby at_160) rfl k) ?_
        show Goes p e below s _ _ _ T16 (mkF m 162 #[.val (.int p1), .val (.int p2), .val (.int p3), .val (.int p4), .val (.int p5), .val (.int (Int32.ofNat n)), .val (.int (0 : Int32)), .val (.int (0 : Int32)), .val (.int (1 : Int32)), .val (.ref b12), .val (.ref b14), .val (.int (0 : Int32)), .unset] [(.int p5), (.int (2 : Int32)), (.ref b14)])
        refine Goes.step (fun _ k => XS.bipush X16.here hx rfl (hb hby at_162) k) ?_
        show Goes p e below s _ _ _ T16 (mkF m 164 #[.val (.int p1), .val (.int p2), .val (.int p3), .val (.int p4), .val (.int p5), .val (.int (Int32.ofNat n)), .val (.int (0 : Int32)), .val (.int (0 : Int32)), .val (.int (1 : Int32)), .val (.ref b12), .val (.ref b14), .val (.int (0 : Int32)), .unset] [(.int (8 : Int32)), (.int p5), (.int (2 : Int32)), (.ref b14)])
        refine Goes.step (fun _ k => XS.iushr X16.here hx rfl (hb hby at_164) rfl k) ?_
        show Goes p e below s _ _ _ T16 (mkF m 165 #[.val (.int p1), .val (.int p2), .val (.int p3), .val (.int p4), .val (.int p5), .val (.int (Int32.ofNat n)), .val (.int (0 : Int32)), .val (.int (0 : Int32)), .val (.int (1 : Int32)), .val (.ref b12), .val (.ref b14), .val (.int (0 : Int32)), .unset] [(.int ((p5.toUInt32 >>> ((8 : Int32) &&& 31).toUInt32).toInt32)), (.int (2 : Int32)), (.ref b14)])
        refine Goes.step (fun _ k => XS.i2b X16.here hx rfl (hb hby at_165) rfl k) ?_
        show Goes p e below s _ _ _ T16 (mkF m 166 #[.val (.int p1), .val (.int p2), .val (.int p3), .val (.int p4), .val (.int p5), .val (.int (Int32.ofNat n)), .val (.int (0 : Int32)), .val (.int (0 : Int32)), .val (.int (1 : Int32)), .val (.ref b12), .val (.ref b14), .val (.int (0 : Int32)), .unset] [(.int (((p5.toUInt32 >>> ((8 : Int32) &&& 31).toUInt32).toInt32).toInt8.toInt32)), (.int (2 : Int32)), (.ref b14)])
        obtain ⟨T17, h17, X17, e17, W17, A17, st17⟩ := stoB X16 hx hZ e16 A_b14_16 (2) rfl (by decide) (g := (mkF m 166 #[.val (.int p1), .val (.int p2), .val (.int p3), .val (.int p4), .val (.int p5), .val (.int (Int32.ofNat n)), .val (.int (0 : Int32)), .val (.int (0 : Int32)), .val (.int (1 : Int32)), .val (.ref b12), .val (.ref b14), .val (.int (0 : Int32)), .unset] [(.int (((p5.toUInt32 >>> ((8 : Int32) &&& 31).toUInt32).toInt32).toInt8.toInt32)), (.int (2 : Int32)), (.ref b14)])) rfl rfl (hb hby at_166)
        refine Goes.step st17 ?_
        have hE13_17 := hE13_16.wr W17
        have hFb13_17 := hFb13_16.other W17 (Or.inl ne_b12_b14)
        have hFs13_17 := hFs13_16.other W17 (Or.inl ne_b12_b14)
        have hA13_17 := hA13_16.other W17 ne_b13_b14
        have z_17 : n0 ≤ h17.size := by rw [W17.size]; exact z_16
        have K_17 : Keep h0 h17 [] := K_16.wr W17 (Or.inr sz_b14)
        have N_17 := Fr.snoc X17 N_16 ge_b14
        have A_b14_17 : Ari Z h17 b14 .byte (7) (updI (updI (updI (fun _ => 0) (0) ((((p5.toUInt32 >>> ((24 : Int32) &&& 31).toUInt32).toInt32).toInt8.toInt32).toInt8.toInt32)) (1) ((((p5.toUInt32 >>> ((16 : Int32) &&& 31).toUInt32).toInt32).toInt8.toInt32).toInt8.toInt32)) (2) ((((p5.toUInt32 >>> ((8 : Int32) &&& 31).toUInt32).toInt32).toInt8.toInt32).toInt8.toInt32)) := A17
        show Goes p e below s _ _ _ T17 (mkF m 167 #[.val (.int p1), .val (.int p2), .val (.int p3), .val (.int p4), .val (.int p5), .val (.int (Int32.ofNat n)), .val (.int (0 : Int32)), .val (.int (0 : Int32)), .val (.int (1 : Int32)), .val (.ref b12), .val (.ref b14), .val (.int (0 : Int32)), .unset] [])
        as_aux_lemma =>
          refine Goes.step (fun _ k => XS.aload X17.here hx rfl (hb hby at_167) rfl rfl k) ?_
          show Goes p e below s _ _ _ T17 (mkF m 169 #[.val (.int p1), .val (.int p2), .val (.int p3), .val (.int p4), .val (.int p5), .val (.int (Int32.ofNat n)), .val (.int (0 : Int32)), .val (.int (0 : Int32)), .val (.int (1 : Int32)), .val (.ref b12), .val (.ref b14), .val (.int (0 : Int32)), .unset] [(.ref b14)])
          refine Goes.step (fun _ k => XS.iload X17.here hx rfl (hb hby at_169) rfl k) ?_
          show Goes p e below s _ _ _ T17 (mkF m 171 #[.val (.int p1), .val (.int p2), .val (.int p3), .val (.int p4), .val (.int p5), .val (.int (Int32.ofNat n)), .val (.int (0 : Int32)), .val (.int (0 : Int32)), .val (.int (1 : Int32)), .val (.ref b12), .val (.ref b14), .val (.int (0 : Int32)), .unset] [(.int (0 : Int32)), (.ref b14)])
          refine Goes.step (fun _ k => XS.iconst X17.here hx rfl (hb hby at_171) k) ?_
          show Goes p e below s _ _ _ T17 (mkF m 172 #[.val (.int p1), .val (.int p2), .val (.int p3), .val (.int p4), .val (.int p5), .val (.int (Int32.ofNat n)), .val (.int (0 : Int32)), .val (.int (0 : Int32)), .val (.int (1 : Int32)), .val (.ref b12), .val (.ref b14), .val (.int (0 : Int32)), .unset] [(.int (3 : Int32)), (.int (0 : Int32)), (.ref b14)])
          refine Goes.step (fun _ k => XS.iadd X17.here hx rfl (hb hby at_172) rfl k) ?_
          show Goes p e below s _ _ _ T17 (mkF m 173 #[.val (.int p1), .val (.int p2), .val (.int p3), .val (.int p4), .val (.int p5), .val (.int (Int32.ofNat n)), .val (.int (0 : Int32)), .val (.int (0 : Int32)), .val (.int (1 : Int32)), .val (.ref b12), .val (.ref b14), .val (.int (0 : Int32)), .unset] [(.int (3 : Int32)), (.ref b14)])
          refine Goes.step (fun _ k => XS.iload X17.here hx rfl (hb hby at_173) rfl k) ?_
          show Goes p e below s _ _ _ T17 (mkF m 175 #[.val (.int p1), .val (.int p2), .val (.int p3), .val (.int p4), .val (.int p5), .val (.int (Int32.ofNat n)), .val (.int (0 : Int32)), .val (.int (0 : Int32)), .val (.int (1 : Int32)), .val (.ref b12), .val (.ref b14), .val (.int (0 : Int32)), .unset] [(.int p5), (.int (3 : Int32)), (.ref b14)])
          refine Goes.step (fun _ k => XS.i2b X17.here hx rfl (hb hby at_175) rfl k) ?_
          show Goes p e below s _ _ _ T17 (mkF m 176 #[.val (.int p1), .val (.int p2), .val (.int p3), .val (.int p4), .val (.int p5), .val (.int (Int32.ofNat n)), .val (.int (0 : Int32)), .val (.int (0 : Int32)), .val (.int (1 : Int32)), .val (.ref b12), .val (.ref b14), .val (.int (0 : Int32)), .unset] [(.int (p5.toInt8.toInt32)), (.int (3 : Int32)), (.ref b14)])
          obtain ⟨T18, h18, X18, e18, W18, A18, st18⟩ := stoB X17 hx hZ e17 A_b14_17 (3) rfl (by decide) (g := (mkF m 176 #[.val (.int p1), .val (.int p2), .val (.int p3), .val (.int p4), .val (.int p5), .val (.int (Int32.ofNat n)), .val (.int (0 : Int32)), .val (.int (0 : Int32)), .val (.int (1 : Int32)), .val (.ref b12), .val (.ref b14), .val (.int (0 : Int32)), .unset] [(.int (p5.toInt8.toInt32)), (.int (3 : Int32)), (.ref b14)])) rfl rfl (hb hby at_176)
          refine Goes.step st18 ?_
          have hE13_18 := hE13_17.wr W18
          have hFb13_18 := hFb13_17.other W18 (Or.inl ne_b12_b14)
          have hFs13_18 := hFs13_17.other W18 (Or.inl ne_b12_b14)
          have hA13_18 := hA13_17.other W18 ne_b13_b14
          have z_18 : n0 ≤ h18.size := by rw [W18.size]; exact z_17
          have K_18 : Keep h0 h18 [] := K_17.wr W18 (Or.inr sz_b14)
          have N_18 := Fr.snoc X18 N_17 ge_b14
          have A_b14_18 : Ari Z h18 b14 .byte (7) (updI (updI (updI (updI (fun _ => 0) (0) ((((p5.toUInt32 >>> ((24 : Int32) &&& 31).toUInt32).toInt32).toInt8.toInt32).toInt8.toInt32)) (1) ((((p5.toUInt32 >>> ((16 : Int32) &&& 31).toUInt32).toInt32).toInt8.toInt32).toInt8.toInt32)) (2) ((((p5.toUInt32 >>> ((8 : Int32) &&& 31).toUInt32).toInt32).toInt8.toInt32).toInt8.toInt32)) (3) ((p5.toInt8.toInt32).toInt8.toInt32)) := A18
          show Goes p e below s _ _ _ T18 (mkF m 177 #[.val (.int p1), .val (.int p2), .val (.int p3), .val (.int p4), .val (.int p5), .val (.int (Int32.ofNat n)), .val (.int (0 : Int32)), .val (.int (0 : Int32)), .val (.int (1 : Int32)), .val (.ref b12), .val (.ref b14), .val (.int (0 : Int32)), .unset] [])
          refine Goes.step (fun _ k => XS.iload X18.here hx rfl (hb hby at_177) rfl k) ?_
          show Goes p e below s _ _ _ T18 (mkF m 179 #[.val (.int p1), .val (.int p2), .val (.int p3), .val (.int p4), .val (.int p5), .val (.int (Int32.ofNat n)), .val (.int (0 : Int32)), .val (.int (0 : Int32)), .val (.int (1 : Int32)), .val (.ref b12), .val (.ref b14), .val (.int (0 : Int32)), .unset] [(.int (0 : Int32))])
          refine Goes.step (fun _ k => XS.iconst X18.here hx rfl (hb hby at_179) k) ?_
          show Goes p e below s _ _ _ T18 (mkF m 180 #[.val (.int p1), .val (.int p2), .val (.int p3), .val (.int p4), .val (.int p5), .val (.int (Int32.ofNat n)), .val (.int (0 : Int32)), .val (.int (0 : Int32)), .val (.int (1 : Int32)), .val (.ref b12), .val (.ref b14), .val (.int (0 : Int32)), .unset] [(.int (4 : Int32)), (.int (0 : Int32))])
          refine Goes.step (fun _ k => XS.iadd X18.here hx rfl (hb hby at_180) rfl k) ?_
          show Goes p e below s _ _ _ T18 (mkF m 181 #[.val (.int p1), .val (.int p2), .val (.int p3), .val (.int p4), .val (.int p5), .val (.int (Int32.ofNat n)), .val (.int (0 : Int32)), .val (.int (0 : Int32)), .val (.int (1 : Int32)), .val (.ref b12), .val (.ref b14), .val (.int (0 : Int32)), .unset] [(.int (4 : Int32))])
          refine Goes.step (fun _ k => XS.istore X18.here hx rfl (hb hby at_181) rfl (l' := #[.val (.int p1), .val (.int p2), .val (.int p3), .val (.int p4), .val (.int p5), .val (.int (Int32.ofNat n)), .val (.int (0 : Int32)), .val (.int (0 : Int32)), .val (.int (1 : Int32)), .val (.ref b12), .val (.ref b14), .val (.int (4 : Int32)), .unset]) rfl k) ?_
          show Goes p e below s _ _ _ T18 (mkF m 183 #[.val (.int p1), .val (.int p2), .val (.int p3), .val (.int p4), .val (.int p5), .val (.int (Int32.ofNat n)), .val (.int (0 : Int32)), .val (.int (0 : Int32)), .val (.int (1 : Int32)), .val (.ref b12), .val (.ref b14), .val (.int (4 : Int32)), .unset] [])
          refine Goes.step (fun _ k => XS.aload X18.here hx rfl (hb hby at_183) rfl rfl k) ?_
          show Goes p e below s _ _ _ T18 (mkF m 185 #[.val (.int p1), .val (.int p2), .val (.int p3), .val (.int p4), .val (.int p5), .val (.int (Int32.ofNat n)), .val (.int (0 : Int32)), .val (.int (0 : Int32)), .val (.int (1 : Int32)), .val (.ref b12), .val (.ref b14), .val (.int (4 : Int32)), .unset] [(.ref b12)])
          refine Goes.step (fun _ k => XS.iload X18.here hx rfl (hb hby at_185) rfl k) ?_
          show Goes p e below s _ _ _ T18 (mkF m 187 #[.val (.int p1), .val (.int p2), .val (.int p3), .val (.int p4), .val (.int p5), .val (.int (Int32.ofNat n)), .val (.int (0 : Int32)), .val (.int (0 : Int32)), .val (.int (1 : Int32)), .val (.ref b12), .val (.ref b14), .val (.int (4 : Int32)), .unset] [(.int p5), (.ref b12)])
          obtain ⟨v19, T19, h19, L19, X19, e19, Q19, st19⟩ := callXV X18 hx hZ (C := "com/example/proxysmith/proxysmith/ClassFileWriter$Bytes") (b := b12) (y := (⟨"com/example/proxysmith/proxysmith/ClassFileWriter$Bytes", "u4", "(I)V"⟩ : MethodName)) (z := (⟨"com/example/proxysmith/proxysmith/ClassFileWriter$Bytes", "u4", "(I)V"⟩ : MethodName)) hown (hw _ (List.mem_of_getElem? (i := 52) rfl)) (hw _ (List.mem_of_getElem? (i := 53) rfl)) (hw _ (List.mem_of_getElem? (i := 55) rfl)) (hw _ (List.mem_of_getElem? (i := 54) rfl)) (hw _ (List.mem_of_getElem? (i := 56) rfl)) (hw _ (List.mem_of_getElem? (i := 2) rfl)) (notFace_of_selects (args := #[]) (mvT hZ (hw _ (List.mem_of_getElem? (i := 55) rfl)))) (by decide) (W := 0) (argsL := [(.int p5)]) (rest := []) (rm11 l Z a0 hw [] b12 p5 b13 n 0 (fun _ => 0) h18 n0 z_18 hE13_18 hFb13_18 hFs13_18 hA13_18 hab13 ge_b12 hg13 (Nat.zero_le n) (Nat.le_trans hn (by decide)) (by omega)) (by decide) (by decide) (by decide) (by decide) e18 hE13_18 (g := (mkF m 187 #[.val (.int p1), .val (.int p2), .val (.int p3), .val (.int p4), .val (.int p5), .val (.int (Int32.ofNat n)), .val (.int (0 : Int32)), .val (.int (0 : Int32)), .val (.int (1 : Int32)), .val (.ref b12), .val (.ref b14), .val (.int (4 : Int32)), .unset] [(.int p5), (.ref b12)])) rfl (by rw [hml]; rfl) (lenOf pd_0_0 rfl) rfl (by show 2 * 0 + _ ≤ _; exact Nat.le_of_eq rfl) (hb hby at_187)
          obtain ⟨b19, n19, f19, rfl, NQ19, KQ19, hE19, hFb19, hFs19, hA19, hab19, hg19, ho19, hs19, hn19, hf19, hv19, hu19, hx19, hy19⟩ := Q19
          refine Goes.step st19 ?_
          have hE13_19 := hE13_18.keep KQ19
          have A_b14_19 := A_b14_18.keep KQ19 (ninS (Ne.symm ne_b12_b14) (ninS (Ne.symm ne_b13_b14) nin0))
          have z_19 : n0 ≤ h19.size := Nat.le_trans z_18 KQ19.1
          have K_19 : Keep h0 h19 [] := Keep.trans K_18 KQ19 (allS (Or.inr sz_b12) (allS (Or.inr (Nat.le_trans K_12.1 hb13)) all0))
          have N_19 := Fr.app N_18 NQ19
          have ne_b14_b19 : b14 ≠ b19 := ho19.elim (fun q z => (Ne.symm ne_b13_b14) (z.trans q)) (fun q => Nat.ne_of_lt (Nat.lt_of_lt_of_le A_b14_18.lt q))
          have mem_b19 : b19 ∈ [] ∨ h0.size ≤ b19 := ho19.elim (fun q => q ▸ (Or.inr (Nat.le_trans K_12.1 hb13))) (fun q => Or.inr (Nat.le_trans K_18.1 q))
          show Goes p e below s _ _ _ T19 (mkF m 190 #[.val (.int p1), .val (.int p2), .val (.int p3), .val (.int p4), .val (.int p5), .val (.int (Int32.ofNat n)), .val (.int (0 : Int32)), .val (.int (0 : Int32)), .val (.int (1 : Int32)), .val (.ref b12), .val (.ref b14), .val (.int (4 : Int32)), .unset] [])
          refine Goes.step (fun _ k => XS.aload X19.here hx rfl (hb hby at_190) rfl rfl k) ?_
          show Goes p e below s _ _ _ T19 (mkF m 192 #[.val (.int p1), .val (.int p2), .val (.int p3), .val (.int p4), .val (.int p5), .val (.int (Int32.ofNat n)), .val (.int (0 : Int32)), .val (.int (0 : Int32)), .val (.int (1 : Int32)), .val (.ref b12), .val (.ref b14), .val (.int (4 : Int32)), .unset] [(.ref b12)])
          obtain ⟨v20, T20, h20, L20, X20, e20, Q20, st20⟩ := callXV X19 hx hZ (C := "com/example/proxysmith/proxysmith/ClassFileWriter$Bytes") (b := b12) (y := (⟨"com/example/proxysmith/proxysmith/ClassFileWriter$Bytes", "toByteArray", "()[B"⟩ : MethodName)) (z := (⟨"com/example/proxysmith/proxysmith/ClassFileWriter$Bytes", "toByteArray", "()[B"⟩ : MethodName)) hown (hw _ (List.mem_of_getElem? (i := 43) rfl)) (hw _ (List.mem_of_getElem? (i := 44) rfl)) (hw _ (List.mem_of_getElem? (i := 46) rfl)) (hw _ (List.mem_of_getElem? (i := 45) rfl)) (hw _ (List.mem_of_getElem? (i := 47) rfl)) (hw _ (List.mem_of_getElem? (i := 2) rfl)) (notFace_of_selects (args := #[]) (mvT hZ (hw _ (List.mem_of_getElem? (i := 46) rfl)))) (by decide) (W := 0) (argsL := []) (rest := []) (rm9 l Z a0 hw [] b12 b19 n19 4 f19 h19 n0 z_19 hE19 hFb19 hFs19 hA19 hab19 ge_b12 hg19 hs19 hn19 (by omega)) (by decide) (by decide) (by decide) (by decide) e19 hE19 (g := (mkF m 192 #[.val (.int p1), .val (.int p2), .val (.int p3), .val (.int p4), .val (.int p5), .val (.int (Int32.ofNat n)), .val (.int (0 : Int32)), .val (.int (0 : Int32)), .val (.int (1 : Int32)), .val (.ref b12), .val (.ref b14), .val (.int (4 : Int32)), .unset] [(.ref b12)])) rfl (by rw [hml]; rfl) (lenOf pd_0_1 rfl) rfl (by show 2 * 0 + _ ≤ _; exact Nat.le_of_eq rfl) (hb hby at_192)
          obtain ⟨r20, rfl, NQ20, KQ20, g20, hA20, hg20⟩ := Q20
          refine Goes.step st20 ?_
          have hE19_20 := hE19.keep KQ20
          have A_b14_20 := A_b14_19.keep KQ20 nin0
          have hFb19_20 := hFb19.keep KQ20 nin0
          have hFs19_20 := hFs19.keep KQ20 nin0
          have hA19_20 := hA19.keep KQ20 nin0
          have z_20 : n0 ≤ h20.size := Nat.le_trans z_19 KQ20.1
          have K_20 : Keep h0 h20 [] := Keep.trans K_19 KQ20 all0
          have N_20 := Fr.app N_19 NQ20
          show Goes p e below s _ _ _ T20 (mkF m 195 #[.val (.int p1), .val (.int p2), .val (.int p3), .val (.int p4), .val (.int p5), .val (.int (Int32.ofNat n)), .val (.int (0 : Int32)), .val (.int (0 : Int32)), .val (.int (1 : Int32)), .val (.ref b12), .val (.ref b14), .val (.int (4 : Int32)), .unset] [(.ref r20)])
          refine Goes.step (fun _ k => XS.astore X20.here hx rfl (hb hby at_195) rfl rfl (l' := #[.val (.int p1), .val (.int p2), .val (.int p3), .val (.int p4), .val (.int p5), .val (.int (Int32.ofNat n)), .val (.int (0 : Int32)), .val (.int (0 : Int32)), .val (.int (1 : Int32)), .val (.ref b12), .val (.ref b14), .val (.int (4 : Int32)), .val (.ref r20)]) rfl k) ?_
          show Goes p e below s _ _ _ T20 (mkF m 197 #[.val (.int p1), .val (.int p2), .val (.int p3), .val (.int p4), .val (.int p5), .val (.int (Int32.ofNat n)), .val (.int (0 : Int32)), .val (.int (0 : Int32)), .val (.int (1 : Int32)), .val (.ref b12), .val (.ref b14), .val (.int (4 : Int32)), .val (.ref r20)] [])
          refine Goes.step (fun _ k => XS.aload X20.here hx rfl (hb hby at_197) rfl rfl k) ?_
          show Goes p e below s _ _ _ T20 (mkF m 199 #[.val (.int p1), .val (.int p2), .val (.int p3), .val (.int p4), .val (.int p5), .val (.int (Int32.ofNat n)), .val (.int (0 : Int32)), .val (.int (0 : Int32)), .val (.int (1 : Int32)), .val (.ref b12), .val (.ref b14), .val (.int (4 : Int32)), .val (.ref r20)] [(.ref r20)])
          refine Goes.step (fun _ k => XS.ifnullNo X20.here hx rfl (hb hby at_199) rfl k) ?_
          show Goes p e below s _ _ _ T20 (mkF m 202 #[.val (.int p1), .val (.int p2), .val (.int p3), .val (.int p4), .val (.int p5), .val (.int (Int32.ofNat n)), .val (.int (0 : Int32)), .val (.int (0 : Int32)), .val (.int (1 : Int32)), .val (.ref b12), .val (.ref b14), .val (.int (4 : Int32)), .val (.ref r20)] [])
          refine Goes.step (fun _ k => XS.aload X20.here hx rfl (hb hby at_202) rfl rfl k) ?_
          show Goes p e below s _ _ _ T20 (mkF m 204 #[.val (.int p1), .val (.int p2), .val (.int p3), .val (.int p4), .val (.int p5), .val (.int (Int32.ofNat n)), .val (.int (0 : Int32)), .val (.int (0 : Int32)), .val (.int (1 : Int32)), .val (.ref b12), .val (.ref b14), .val (.int (4 : Int32)), .val (.ref r20)] [(.ref r20)])
          refine Goes.step (fun _ k => rdL X20 hx hZ e20 hA20 (g := (mkF m 204 #[.val (.int p1), .val (.int p2), .val (.int p3), .val (.int p4), .val (.int p5), .val (.int (Int32.ofNat n)), .val (.int (0 : Int32)), .val (.int (0 : Int32)), .val (.int (1 : Int32)), .val (.ref b12), .val (.ref b14), .val (.int (4 : Int32)), .val (.ref r20)] [(.ref r20)])) rfl rfl (hb hby at_204) _ k) ?_
          show Goes p e below s _ _ _ T20 (mkF m 205 #[.val (.int p1), .val (.int p2), .val (.int p3), .val (.int p4), .val (.int p5), .val (.int (Int32.ofNat n)), .val (.int (0 : Int32)), .val (.int (0 : Int32)), .val (.int (1 : Int32)), .val (.ref b12), .val (.ref b14), .val (.int (4 : Int32)), .val (.ref r20)] [(.int (Int32.ofNat 4))])
          refine Goes.step (fun _ k => XS.iload X20.here hx rfl (hb hby at_205) rfl k) ?_
          show Goes p e below s _ _ _ T20 (mkF m 207 #[.val (.int p1), .val (.int p2), .val (.int p3), .val (.int p4), .val (.int p5), .val (.int (Int32.ofNat n)), .val (.int (0 : Int32)), .val (.int (0 : Int32)), .val (.int (1 : Int32)), .val (.ref b12), .val (.ref b14), .val (.int (4 : Int32)), .val (.ref r20)] [(.int (4 : Int32)), (.int (Int32.ofNat 4))])
          refine Goes.step (fun _ k => XS.icmpYes X20.here hx rfl (pc0 := 207) (pc' := 212) rfl (hb hby at_207) rfl (teq (by decide : (Int32.ofNat 4) = (4 : Int32))).1 (by decide) (by decide) k) ?_
          show Goes p e below s _ _ _ T20 (mkF m 212 #[.val (.int p1), .val (.int p2), .val (.int p3), .val (.int p4), .val (.int p5), .val (.int (Int32.ofNat n)), .val (.int (0 : Int32)), .val (.int (0 : Int32)), .val (.int (1 : Int32)), .val (.ref b12), .val (.ref b14), .val (.int (4 : Int32)), .val (.ref r20)] [])
          refine Goes.step (fun _ k => XS.aload X20.here hx rfl (hb hby at_212) rfl rfl k) ?_
          show Goes p e below s _ _ _ T20 (mkF m 214 #[.val (.int p1), .val (.int p2), .val (.int p3), .val (.int p4), .val (.int p5), .val (.int (Int32.ofNat n)), .val (.int (0 : Int32)), .val (.int (0 : Int32)), .val (.int (1 : Int32)), .val (.ref b12), .val (.ref b14), .val (.int (4 : Int32)), .val (.ref r20)] [(.ref r20)])
          refine Goes.step (fun _ k => XS.aload X20.here hx rfl (hb hby at_214) rfl rfl k) ?_
          show Goes p e below s _ _ _ T20 (mkF m 216 #[.val (.int p1), .val (.int p2), .val (.int p3), .val (.int p4), .val (.int p5), .val (.int (Int32.ofNat n)), .val (.int (0 : Int32)), .val (.int (0 : Int32)), .val (.int (1 : Int32)), .val (.ref b12), .val (.ref b14), .val (.int (4 : Int32)), .val (.ref r20)] [(.ref b14), (.ref r20)])
          refine Goes.step (fun _ k => XS.iload X20.here hx rfl (hb hby at_216) rfl k) ?_
          show Goes p e below s _ _ _ T20 (mkF m 218 #[.val (.int p1), .val (.int p2), .val (.int p3), .val (.int p4), .val (.int p5), .val (.int (Int32.ofNat n)), .val (.int (0 : Int32)), .val (.int (0 : Int32)), .val (.int (1 : Int32)), .val (.ref b12), .val (.ref b14), .val (.int (4 : Int32)), .val (.ref r20)] [(.int (4 : Int32)), (.ref b14), (.ref r20)])
          refine Goes.step (fun _ k => XS.iconst X20.here hx rfl (hb hby at_218) k) ?_
          show Goes p e below s _ _ _ T20 (mkF m 219 #[.val (.int p1), .val (.int p2), .val (.int p3), .val (.int p4), .val (.int p5), .val (.int (Int32.ofNat n)), .val (.int (0 : Int32)), .val (.int (0 : Int32)), .val (.int (1 : Int32)), .val (.ref b12), .val (.ref b14), .val (.int (4 : Int32)), .val (.ref r20)] [(.int (0 : Int32)), (.int (4 : Int32)), (.ref b14), (.ref r20)])
          obtain ⟨T21, X21, e21, st21⟩ := callPure X20 hx hZ (y := (⟨"com/example/proxysmith/proxysmith/BytesToByteArrayPinLaw", "same", "([B[BII)Z"⟩ : MethodName)) hown (hw _ (List.mem_of_getElem? (i := 48) rfl)) (hw _ (List.mem_of_getElem? (i := 49) rfl)) (hw _ (List.mem_of_getElem? (i := 50) rfl)) (hw _ (List.mem_of_getElem? (i := 51) rfl)) (by decide) (W := 0) (argsL := [(.ref r20), (.ref b14), (.int (4 : Int32)), (.int (0 : Int32))]) (rest := []) (r := (.int (1 : Int32))) (fun _ _ _ q => q) (rm10b l Z a0 hw [] r20 b14 (4 : Int32) (0 : Int32) 0 4 7 g20 (updI (updI (updI (updI (fun _ => 0) (0) ((((p5.toUInt32 >>> ((24 : Int32) &&& 31).toUInt32).toInt32).toInt8.toInt32).toInt8.toInt32)) (1) ((((p5.toUInt32 >>> ((16 : Int32) &&& 31).toUInt32).toInt32).toInt8.toInt32).toInt8.toInt32)) (2) ((((p5.toUInt32 >>> ((8 : Int32) &&& 31).toUInt32).toInt32).toInt8.toInt32).toInt8.toInt32)) (3) ((p5.toInt8.toInt32).toInt8.toInt32)) h20 n0 z_20 (by decide) rfl hA20 A_b14_20 (by decide) (by decide) ((hg20 0 (by omega)).trans (hv19.trans (own_24 _)))) (by decide) (by decide) (by decide) (by decide) e20 (g := (mkF m 219 #[.val (.int p1), .val (.int p2), .val (.int p3), .val (.int p4), .val (.int p5), .val (.int (Int32.ofNat n)), .val (.int (0 : Int32)), .val (.int (0 : Int32)), .val (.int (1 : Int32)), .val (.ref b12), .val (.ref b14), .val (.int (4 : Int32)), .val (.ref r20)] [(.int (0 : Int32)), (.int (4 : Int32)), (.ref b14), (.ref r20)])) rfl (by rw [hml]; rfl) (lenOf pd_0_2 rfl) rfl (by show 2 * 0 + _ ≤ _; exact Nat.le_of_eq rfl) (hb hby at_219)
          refine Goes.step st21 ?_
          show Goes p e below s _ _ _ T21 (mkF m 222 #[.val (.int p1), .val (.int p2), .val (.int p3), .val (.int p4), .val (.int p5), .val (.int (Int32.ofNat n)), .val (.int (0 : Int32)), .val (.int (0 : Int32)), .val (.int (1 : Int32)), .val (.ref b12), .val (.ref b14), .val (.int (4 : Int32)), .val (.ref r20)] [(.int (1 : Int32))])
          refine Goes.step (fun _ k => XS.ifNo X21.here hx rfl (hb hby at_222) rfl ((if0 _ _).trans (feq (by decide : ¬ ((1 : Int32) = (0 : Int32)))).1) k) ?_
          show Goes p e below s _ _ _ T21 (mkF m 225 #[.val (.int p1), .val (.int p2), .val (.int p3), .val (.int p4), .val (.int p5), .val (.int (Int32.ofNat n)), .val (.int (0 : Int32)), .val (.int (0 : Int32)), .val (.int (1 : Int32)), .val (.ref b12), .val (.ref b14), .val (.int (4 : Int32)), .val (.ref r20)] [])
          refine Goes.step (fun _ k => XS.aload X21.here hx rfl (hb hby at_225) rfl rfl k) ?_
          show Goes p e below s _ _ _ T21 (mkF m 227 #[.val (.int p1), .val (.int p2), .val (.int p3), .val (.int p4), .val (.int p5), .val (.int (Int32.ofNat n)), .val (.int (0 : Int32)), .val (.int (0 : Int32)), .val (.int (1 : Int32)), .val (.ref b12), .val (.ref b14), .val (.int (4 : Int32)), .val (.ref r20)] [(.ref r20)])
          refine Goes.step (fun _ k => XS.aload X21.here hx rfl (hb hby at_227) rfl rfl k) ?_
          show Goes p e below s _ _ _ T21 (mkF m 229 #[.val (.int p1), .val (.int p2), .val (.int p3), .val (.int p4), .val (.int p5), .val (.int (Int32.ofNat n)), .val (.int (0 : Int32)), .val (.int (0 : Int32)), .val (.int (1 : Int32)), .val (.ref b12), .val (.ref b14), .val (.int (4 : Int32)), .val (.ref r20)] [(.ref b14), (.ref r20)])
          refine Goes.step (fun _ k => XS.iload X21.here hx rfl (hb hby at_229) rfl k) ?_
          show Goes p e below s _ _ _ T21 (mkF m 231 #[.val (.int p1), .val (.int p2), .val (.int p3), .val (.int p4), .val (.int p5), .val (.int (Int32.ofNat n)), .val (.int (0 : Int32)), .val (.int (0 : Int32)), .val (.int (1 : Int32)), .val (.ref b12), .val (.ref b14), .val (.int (4 : Int32)), .val (.ref r20)] [(.int (4 : Int32)), (.ref b14), (.ref r20)])
          refine Goes.step (fun _ k => XS.iconst X21.here hx rfl (hb hby at_231) k) ?_
          show Goes p e below s _ _ _ T21 (mkF m 232 #[.val (.int p1), .val (.int p2), .val (.int p3), .val (.int p4), .val (.int p5), .val (.int (Int32.ofNat n)), .val (.int (0 : Int32)), .val (.int (0 : Int32)), .val (.int (1 : Int32)), .val (.ref b12), .val (.ref b14), .val (.int (4 : Int32)), .val (.ref r20)] [(.int (1 : Int32)), (.int (4 : Int32)), (.ref b14), (.ref r20)])
          obtain ⟨T22, X22, e22, st22⟩ := callPure X21 hx hZ (y := (⟨"com/example/proxysmith/proxysmith/BytesToByteArrayPinLaw", "same", "([B[BII)Z"⟩ : MethodName)) hown (hw _ (List.mem_of_getElem? (i := 48) rfl)) (hw _ (List.mem_of_getElem? (i := 49) rfl)) (hw _ (List.mem_of_getElem? (i := 50) rfl)) (hw _ (List.mem_of_getElem? (i := 51) rfl)) (by decide) (W := 0) (argsL := [(.ref r20), (.ref b14), (.int (4 : Int32)), (.int (1 : Int32))]) (rest := []) (r := (.int (1 : Int32))) (fun _ _ _ q => q) (rm10b l Z a0 hw [] r20 b14 (4 : Int32) (1 : Int32) 1 4 7 g20 (updI (updI (updI (updI (fun _ => 0) (0) ((((p5.toUInt32 >>> ((24 : Int32) &&& 31).toUInt32).toInt32).toInt8.toInt32).toInt8.toInt32)) (1) ((((p5.toUInt32 >>> ((16 : Int32) &&& 31).toUInt32).toInt32).toInt8.toInt32).toInt8.toInt32)) (2) ((((p5.toUInt32 >>> ((8 : Int32) &&& 31).toUInt32).toInt32).toInt8.toInt32).toInt8.toInt32)) (3) ((p5.toInt8.toInt32).toInt8.toInt32)) h20 n0 z_20 (by decide) rfl hA20 A_b14_20 (by decide) (by decide) ((hg20 1 (by omega)).trans (hu19.trans (own_BB _).symm))) (by decide) (by decide) (by decide) (by decide) e21 (g := (mkF m 232 #[.val (.int p1), .val (.int p2), .val (.int p3), .val (.int p4), .val (.int p5), .val (.int (Int32.ofNat n)), .val (.int (0 : Int32)), .val (.int (0 : Int32)), .val (.int (1 : Int32)), .val (.ref b12), .val (.ref b14), .val (.int (4 : Int32)), .val (.ref r20)] [(.int (1 : Int32)), (.int (4 : Int32)), (.ref b14), (.ref r20)])) rfl (by rw [hml]; rfl) (lenOf pd_0_2 rfl) rfl (by show 2 * 0 + _ ≤ _; exact Nat.le_of_eq rfl) (hb hby at_232)
          refine Goes.step st22 ?_
          show Goes p e below s _ _ _ T22 (mkF m 235 #[.val (.int p1), .val (.int p2), .val (.int p3), .val (.int p4), .val (.int p5), .val (.int (Int32.ofNat n)), .val (.int (0 : Int32)), .val (.int (0 : Int32)), .val (.int (1 : Int32)), .val (.ref b12), .val (.ref b14), .val (.int (4 : Int32)), .val (.ref r20)] [(.int (1 : Int32))])
          refine Goes.step (fun _ k => XS.ifNo X22.here hx rfl (hb hby at_235) rfl ((if0 _ _).trans (feq (by decide : ¬ ((1 : Int32) = (0 : Int32)))).1) k) ?_
          show Goes p e below s _ _ _ T22 (mkF m 238 #[.val (.int p1), .val (.int p2), .val (.int p3), .val (.int p4), .val (.int p5), .val (.int (Int32.ofNat n)), .val (.int (0 : Int32)), .val (.int (0 : Int32)), .val (.int (1 : Int32)), .val (.ref b12), .val (.ref b14), .val (.int (4 : Int32)), .val (.ref r20)] [])
          refine Goes.step (fun _ k => XS.aload X22.here hx rfl (hb hby at_238) rfl rfl k) ?_
          show Goes p e below s _ _ _ T22 (mkF m 240 #[.val (.int p1), .val (.int p2), .val (.int p3), .val (.int p4), .val (.int p5), .val (.int (Int32.ofNat n)), .val (.int (0 : Int32)), .val (.int (0 : Int32)), .val (.int (1 : Int32)), .val (.ref b12), .val (.ref b14), .val (.int (4 : Int32)), .val (.ref r20)] [(.ref r20)])
          refine Goes.step (fun _ k => XS.aload X22.here hx rfl (hb hby at_240) rfl rfl k) ?_
          show Goes p e below s _ _ _ T22 (mkF m 242 #[.val (.int p1), .val (.int p2), .val (.int p3), .val (.int p4), .val (.int p5), .val (.int (Int32.ofNat n)), .val (.int (0 : Int32)), .val (.int (0 : Int32)), .val (.int (1 : Int32)), .val (.ref b12), .val (.ref b14), .val (.int (4 : Int32)), .val (.ref r20)] [(.ref b14), (.ref r20)])
          refine Goes.step (fun _ k => XS.iload X22.here hx rfl (hb hby at_242) rfl k) ?_
          show Goes p e below s _ _ _ T22 (mkF m 244 #[.val (.int p1), .val (.int p2), .val (.int p3), .val (.int p4), .val (.int p5), .val (.int (Int32.ofNat n)), .val (.int (0 : Int32)), .val (.int (0 : Int32)), .val (.int (1 : Int32)), .val (.ref b12), .val (.ref b14), .val (.int (4 : Int32)), .val (.ref r20)] [(.int (4 : Int32)), (.ref b14), (.ref r20)])
          refine Goes.step (fun _ k => XS.iconst X22.here hx rfl (hb hby at_244) k) ?_
          show Goes p e below s _ _ _ T22 (mkF m 245 #[.val (.int p1), .val (.int p2), .val (.int p3), .val (.int p4), .val (.int p5), .val (.int (Int32.ofNat n)), .val (.int (0 : Int32)), .val (.int (0 : Int32)), .val (.int (1 : Int32)), .val (.ref b12), .val (.ref b14), .val (.int (4 : Int32)), .val (.ref r20)] [(.int (2 : Int32)), (.int (4 : Int32)), (.ref b14), (.ref r20)])
          obtain ⟨T23, X23, e23, st23⟩ := callPure X22 hx hZ (y := (⟨"com/example/proxysmith/proxysmith/BytesToByteArrayPinLaw", "same", "([B[BII)Z"⟩ : MethodName)) hown (hw _ (List.mem_of_getElem? (i := 48) rfl)) (hw _ (List.mem_of_getElem? (i := 49) rfl)) (hw _ (List.mem_of_getElem? (i := 50) rfl)) (hw _ (List.mem_of_getElem? (i := 51) rfl)) (by decide) (W := 0) (argsL := [(.ref r20), (.ref b14), (.int (4 : Int32)), (.int (2 : Int32))]) (rest := []) (r := (.int (1 : Int32))) (fun _ _ _ q => q) (rm10b l Z a0 hw [] r20 b14 (4 : Int32) (2 : Int32) 2 4 7 g20 (updI (updI (updI (updI (fun _ => 0) (0) ((((p5.toUInt32 >>> ((24 : Int32) &&& 31).toUInt32).toInt32).toInt8.toInt32).toInt8.toInt32)) (1) ((((p5.toUInt32 >>> ((16 : Int32) &&& 31).toUInt32).toInt32).toInt8.toInt32).toInt8.toInt32)) (2) ((((p5.toUInt32 >>> ((8 : Int32) &&& 31).toUInt32).toInt32).toInt8.toInt32).toInt8.toInt32)) (3) ((p5.toInt8.toInt32).toInt8.toInt32)) h20 n0 z_20 (by decide) rfl hA20 A_b14_20 (by decide) (by decide) ((hg20 2 (by omega)).trans (hx19.trans (own_BB _).symm))) (by decide) (by decide) (by decide) (by decide) e22 (g := (mkF m 245 #[.val (.int p1), .val (.int p2), .val (.int p3), .val (.int p4), .val (.int p5), .val (.int (Int32.ofNat n)), .val (.int (0 : Int32)), .val (.int (0 : Int32)), .val (.int (1 : Int32)), .val (.ref b12), .val (.ref b14), .val (.int (4 : Int32)), .val (.ref r20)] [(.int (2 : Int32)), (.int (4 : Int32)), (.ref b14), (.ref r20)])) rfl (by rw [hml]; rfl) (lenOf pd_0_2 rfl) rfl (by show 2 * 0 + _ ≤ _; exact Nat.le_of_eq rfl) (hb hby at_245)
          refine Goes.step st23 ?_
          show Goes p e below s _ _ _ T23 (mkF m 248 #[.val (.int p1), .val (.int p2), .val (.int p3), .val (.int p4), .val (.int p5), .val (.int (Int32.ofNat n)), .val (.int (0 : Int32)), .val (.int (0 : Int32)), .val (.int (1 : Int32)), .val (.ref b12), .val (.ref b14), .val (.int (4 : Int32)), .val (.ref r20)] [(.int (1 : Int32))])
          refine Goes.step (fun _ k => XS.ifNo X23.here hx rfl (hb hby at_248) rfl ((if0 _ _).trans (feq (by decide : ¬ ((1 : Int32) = (0 : Int32)))).1) k) ?_
          show Goes p e below s _ _ _ T23 (mkF m 251 #[.val (.int p1), .val (.int p2), .val (.int p3), .val (.int p4), .val (.int p5), .val (.int (Int32.ofNat n)), .val (.int (0 : Int32)), .val (.int (0 : Int32)), .val (.int (1 : Int32)), .val (.ref b12), .val (.ref b14), .val (.int (4 : Int32)), .val (.ref r20)] [])
          refine Goes.step (fun _ k => XS.aload X23.here hx rfl (hb hby at_251) rfl rfl k) ?_
          show Goes p e below s _ _ _ T23 (mkF m 253 #[.val (.int p1), .val (.int p2), .val (.int p3), .val (.int p4), .val (.int p5), .val (.int (Int32.ofNat n)), .val (.int (0 : Int32)), .val (.int (0 : Int32)), .val (.int (1 : Int32)), .val (.ref b12), .val (.ref b14), .val (.int (4 : Int32)), .val (.ref r20)] [(.ref r20)])
          refine Goes.step (fun _ k => XS.aload X23.here hx rfl (hb hby at_253) rfl rfl k) ?_
          show Goes p e below s _ _ _ T23 (mkF m 255 #[.val (.int p1), .val (.int p2), .val (.int p3), .val (.int p4), .val (.int p5), .val (.int (Int32.ofNat n)), .val (.int (0 : Int32)), .val (.int (0 : Int32)), .val (.int (1 : Int32)), .val (.ref b12), .val (.ref b14), .val (.int (4 : Int32)), .val (.ref r20)] [(.ref b14), (.ref r20)])
          refine Goes.step (fun _ k => XS.iload X23.here hx rfl (hb hby at_255) rfl k) ?_
          show Goes p e below s _ _ _ T23 (mkF m 257 #[.val (.int p1), .val (.int p2), .val (.int p3), .val (.int p4), .val (.int p5), .val (.int (Int32.ofNat n)), .val (.int (0 : Int32)), .val (.int (0 : Int32)), .val (.int (1 : Int32)), .val (.ref b12), .val (.ref b14), .val (.int (4 : Int32)), .val (.ref r20)] [(.int (4 : Int32)), (.ref b14), (.ref r20)])
          refine Goes.step (fun _ k => XS.iconst X23.here hx rfl (hb hby at_257) k) ?_
          show Goes p e below s _ _ _ T23 (mkF m 258 #[.val (.int p1), .val (.int p2), .val (.int p3), .val (.int p4), .val (.int p5), .val (.int (Int32.ofNat n)), .val (.int (0 : Int32)), .val (.int (0 : Int32)), .val (.int (1 : Int32)), .val (.ref b12), .val (.ref b14), .val (.int (4 : Int32)), .val (.ref r20)] [(.int (3 : Int32)), (.int (4 : Int32)), (.ref b14), (.ref r20)])
          as_aux_lemma =>
            obtain ⟨T24, X24, e24, st24⟩ := callPure X23 hx hZ (y := (⟨"com/example/proxysmith/proxysmith/BytesToByteArrayPinLaw", "same", "([B[BII)Z"⟩ : MethodName)) hown (hw _ (List.mem_of_getElem? (i := 48) rfl)) (hw _ (List.mem_of_getElem? (i := 49) rfl)) (hw _ (List.mem_of_getElem? (i := 50) rfl)) (hw _ (List.mem_of_getElem? (i := 51) rfl)) (by decide) (W := 0) (argsL := [(.ref r20), (.ref b14), (.int (4 : Int32)), (.int (3 : Int32))]) (rest := []) (r := (.int (1 : Int32))) (fun _ _ _ q => q) (rm10b l Z a0 hw [] r20 b14 (4 : Int32) (3 : Int32) 3 4 7 g20 (updI (updI (updI (updI (fun _ => 0) (0) ((((p5.toUInt32 >>> ((24 : Int32) &&& 31).toUInt32).toInt32).toInt8.toInt32).toInt8.toInt32)) (1) ((((p5.toUInt32 >>> ((16 : Int32) &&& 31).toUInt32).toInt32).toInt8.toInt32).toInt8.toInt32)) (2) ((((p5.toUInt32 >>> ((8 : Int32) &&& 31).toUInt32).toInt32).toInt8.toInt32).toInt8.toInt32)) (3) ((p5.toInt8.toInt32).toInt8.toInt32)) h20 n0 z_20 (by decide) rfl hA20 A_b14_20 (by decide) (by decide) ((hg20 3 (by omega)).trans (hy19.trans (own_BB _).symm))) (by decide) (by decide) (by decide) (by decide) e23 (g := (mkF m 258 #[.val (.int p1), .val (.int p2), .val (.int p3), .val (.int p4), .val (.int p5), .val (.int (Int32.ofNat n)), .val (.int (0 : Int32)), .val (.int (0 : Int32)), .val (.int (1 : Int32)), .val (.ref b12), .val (.ref b14), .val (.int (4 : Int32)), .val (.ref r20)] [(.int (3 : Int32)), (.int (4 : Int32)), (.ref b14), (.ref r20)])) rfl (by rw [hml]; rfl) (lenOf pd_0_2 rfl) rfl (by show 2 * 0 + _ ≤ _; exact Nat.le_of_eq rfl) (hb hby at_258)
            refine Goes.step st24 ?_
            show Goes p e below s _ _ _ T24 (mkF m 261 #[.val (.int p1), .val (.int p2), .val (.int p3), .val (.int p4), .val (.int p5), .val (.int (Int32.ofNat n)), .val (.int (0 : Int32)), .val (.int (0 : Int32)), .val (.int (1 : Int32)), .val (.ref b12), .val (.ref b14), .val (.int (4 : Int32)), .val (.ref r20)] [(.int (1 : Int32))])
            refine Goes.step (fun _ k => XS.ifNo X24.here hx rfl (hb hby at_261) rfl ((if0 _ _).trans (feq (by decide : ¬ ((1 : Int32) = (0 : Int32)))).1) k) ?_
            show Goes p e below s _ _ _ T24 (mkF m 264 #[.val (.int p1), .val (.int p2), .val (.int p3), .val (.int p4), .val (.int p5), .val (.int (Int32.ofNat n)), .val (.int (0 : Int32)), .val (.int (0 : Int32)), .val (.int (1 : Int32)), .val (.ref b12), .val (.ref b14), .val (.int (4 : Int32)), .val (.ref r20)] [])
            refine Goes.step (fun _ k => XS.aload X24.here hx rfl (hb hby at_264) rfl rfl k) ?_
            show Goes p e below s _ _ _ T24 (mkF m 266 #[.val (.int p1), .val (.int p2), .val (.int p3), .val (.int p4), .val (.int p5), .val (.int (Int32.ofNat n)), .val (.int (0 : Int32)), .val (.int (0 : Int32)), .val (.int (1 : Int32)), .val (.ref b12), .val (.ref b14), .val (.int (4 : Int32)), .val (.ref r20)] [(.ref r20)])
            refine Goes.step (fun _ k => XS.aload X24.here hx rfl (hb hby at_266) rfl rfl k) ?_
            show Goes p e below s _ _ _ T24 (mkF m 268 #[.val (.int p1), .val (.int p2), .val (.int p3), .val (.int p4), .val (.int p5), .val (.int (Int32.ofNat n)), .val (.int (0 : Int32)), .val (.int (0 : Int32)), .val (.int (1 : Int32)), .val (.ref b12), .val (.ref b14), .val (.int (4 : Int32)), .val (.ref r20)] [(.ref b14), (.ref r20)])
            refine Goes.step (fun _ k => XS.iload X24.here hx rfl (hb hby at_268) rfl k) ?_
            show Goes p e below s _ _ _ T24 (mkF m 270 #[.val (.int p1), .val (.int p2), .val (.int p3), .val (.int p4), .val (.int p5), .val (.int (Int32.ofNat n)), .val (.int (0 : Int32)), .val (.int (0 : Int32)), .val (.int (1 : Int32)), .val (.ref b12), .val (.ref b14), .val (.int (4 : Int32)), .val (.ref r20)] [(.int (4 : Int32)), (.ref b14), (.ref r20)])
            refine Goes.step (fun _ k => XS.iconst X24.here hx rfl (hb hby at_270) k) ?_
            show Goes p e below s _ _ _ T24 (mkF m 271 #[.val (.int p1), .val (.int p2), .val (.int p3), .val (.int p4), .val (.int p5), .val (.int (Int32.ofNat n)), .val (.int (0 : Int32)), .val (.int (0 : Int32)), .val (.int (1 : Int32)), .val (.ref b12), .val (.ref b14), .val (.int (4 : Int32)), .val (.ref r20)] [(.int (4 : Int32)), (.int (4 : Int32)), (.ref b14), (.ref r20)])
            obtain ⟨T25, X25, e25, st25⟩ := callPure X24 hx hZ (y := (⟨"com/example/proxysmith/proxysmith/BytesToByteArrayPinLaw", "same", "([B[BII)Z"⟩ : MethodName)) hown (hw _ (List.mem_of_getElem? (i := 48) rfl)) (hw _ (List.mem_of_getElem? (i := 49) rfl)) (hw _ (List.mem_of_getElem? (i := 50) rfl)) (hw _ (List.mem_of_getElem? (i := 51) rfl)) (by decide) (W := 0) (argsL := [(.ref r20), (.ref b14), (.int (4 : Int32)), (.int (4 : Int32))]) (rest := []) (r := (.int (1 : Int32))) (fun _ _ _ q => q) (rm10a l Z a0 hw [] r20 b14 (4 : Int32) (4 : Int32) h20 n0 z_20 (by decide)) (by decide) (by decide) (by decide) (by decide) e24 (g := (mkF m 271 #[.val (.int p1), .val (.int p2), .val (.int p3), .val (.int p4), .val (.int p5), .val (.int (Int32.ofNat n)), .val (.int (0 : Int32)), .val (.int (0 : Int32)), .val (.int (1 : Int32)), .val (.ref b12), .val (.ref b14), .val (.int (4 : Int32)), .val (.ref r20)] [(.int (4 : Int32)), (.int (4 : Int32)), (.ref b14), (.ref r20)])) rfl (by rw [hml]; rfl) (lenOf pd_0_2 rfl) rfl (by show 2 * 0 + _ ≤ _; exact Nat.le_of_eq rfl) (hb hby at_271)
            refine Goes.step st25 ?_
            show Goes p e below s _ _ _ T25 (mkF m 274 #[.val (.int p1), .val (.int p2), .val (.int p3), .val (.int p4), .val (.int p5), .val (.int (Int32.ofNat n)), .val (.int (0 : Int32)), .val (.int (0 : Int32)), .val (.int (1 : Int32)), .val (.ref b12), .val (.ref b14), .val (.int (4 : Int32)), .val (.ref r20)] [(.int (1 : Int32))])
            refine Goes.step (fun _ k => XS.ifNo X25.here hx rfl (hb hby at_274) rfl ((if0 _ _).trans (feq (by decide : ¬ ((1 : Int32) = (0 : Int32)))).1) k) ?_
            show Goes p e below s _ _ _ T25 (mkF m 277 #[.val (.int p1), .val (.int p2), .val (.int p3), .val (.int p4), .val (.int p5), .val (.int (Int32.ofNat n)), .val (.int (0 : Int32)), .val (.int (0 : Int32)), .val (.int (1 : Int32)), .val (.ref b12), .val (.ref b14), .val (.int (4 : Int32)), .val (.ref r20)] [])
            refine Goes.step (fun _ k => XS.aload X25.here hx rfl (hb hby at_277) rfl rfl k) ?_
            show Goes p e below s _ _ _ T25 (mkF m 279 #[.val (.int p1), .val (.int p2), .val (.int p3), .val (.int p4), .val (.int p5), .val (.int (Int32.ofNat n)), .val (.int (0 : Int32)), .val (.int (0 : Int32)), .val (.int (1 : Int32)), .val (.ref b12), .val (.ref b14), .val (.int (4 : Int32)), .val (.ref r20)] [(.ref r20)])
            refine Goes.step (fun _ k => XS.aload X25.here hx rfl (hb hby at_279) rfl rfl k) ?_
            show Goes p e below s _ _ _ T25 (mkF m 281 #[.val (.int p1), .val (.int p2), .val (.int p3), .val (.int p4), .val (.int p5), .val (.int (Int32.ofNat n)), .val (.int (0 : Int32)), .val (.int (0 : Int32)), .val (.int (1 : Int32)), .val (.ref b12), .val (.ref b14), .val (.int (4 : Int32)), .val (.ref r20)] [(.ref b14), (.ref r20)])
            refine Goes.step (fun _ k => XS.iload X25.here hx rfl (hb hby at_281) rfl k) ?_
            show Goes p e below s _ _ _ T25 (mkF m 283 #[.val (.int p1), .val (.int p2), .val (.int p3), .val (.int p4), .val (.int p5), .val (.int (Int32.ofNat n)), .val (.int (0 : Int32)), .val (.int (0 : Int32)), .val (.int (1 : Int32)), .val (.ref b12), .val (.ref b14), .val (.int (4 : Int32)), .val (.ref r20)] [(.int (4 : Int32)), (.ref b14), (.ref r20)])
            refine Goes.step (fun _ k => XS.iconst X25.here hx rfl (hb hby at_283) k) ?_
            show Goes p e below s _ _ _ T25 (mkF m 284 #[.val (.int p1), .val (.int p2), .val (.int p3), .val (.int p4), .val (.int p5), .val (.int (Int32.ofNat n)), .val (.int (0 : Int32)), .val (.int (0 : Int32)), .val (.int (1 : Int32)), .val (.ref b12), .val (.ref b14), .val (.int (4 : Int32)), .val (.ref r20)] [(.int (5 : Int32)), (.int (4 : Int32)), (.ref b14), (.ref r20)])
            obtain ⟨T26, X26, e26, st26⟩ := callPure X25 hx hZ (y := (⟨"com/example/proxysmith/proxysmith/BytesToByteArrayPinLaw", "same", "([B[BII)Z"⟩ : MethodName)) hown (hw _ (List.mem_of_getElem? (i := 48) rfl)) (hw _ (List.mem_of_getElem? (i := 49) rfl)) (hw _ (List.mem_of_getElem? (i := 50) rfl)) (hw _ (List.mem_of_getElem? (i := 51) rfl)) (by decide) (W := 0) (argsL := [(.ref r20), (.ref b14), (.int (4 : Int32)), (.int (5 : Int32))]) (rest := []) (r := (.int (1 : Int32))) (fun _ _ _ q => q) (rm10a l Z a0 hw [] r20 b14 (4 : Int32) (5 : Int32) h20 n0 z_20 (by decide)) (by decide) (by decide) (by decide) (by decide) e25 (g := (mkF m 284 #[.val (.int p1), .val (.int p2), .val (.int p3), .val (.int p4), .val (.int p5), .val (.int (Int32.ofNat n)), .val (.int (0 : Int32)), .val (.int (0 : Int32)), .val (.int (1 : Int32)), .val (.ref b12), .val (.ref b14), .val (.int (4 : Int32)), .val (.ref r20)] [(.int (5 : Int32)), (.int (4 : Int32)), (.ref b14), (.ref r20)])) rfl (by rw [hml]; rfl) (lenOf pd_0_2 rfl) rfl (by show 2 * 0 + _ ≤ _; exact Nat.le_of_eq rfl) (hb hby at_284)
            refine Goes.step st26 ?_
            show Goes p e below s _ _ _ T26 (mkF m 287 #[.val (.int p1), .val (.int p2), .val (.int p3), .val (.int p4), .val (.int p5), .val (.int (Int32.ofNat n)), .val (.int (0 : Int32)), .val (.int (0 : Int32)), .val (.int (1 : Int32)), .val (.ref b12), .val (.ref b14), .val (.int (4 : Int32)), .val (.ref r20)] [(.int (1 : Int32))])
            refine Goes.step (fun _ k => XS.ifNo X26.here hx rfl (hb hby at_287) rfl ((if0 _ _).trans (feq (by decide : ¬ ((1 : Int32) = (0 : Int32)))).1) k) ?_
            show Goes p e below s _ _ _ T26 (mkF m 290 #[.val (.int p1), .val (.int p2), .val (.int p3), .val (.int p4), .val (.int p5), .val (.int (Int32.ofNat n)), .val (.int (0 : Int32)), .val (.int (0 : Int32)), .val (.int (1 : Int32)), .val (.ref b12), .val (.ref b14), .val (.int (4 : Int32)), .val (.ref r20)] [])
            refine Goes.step (fun _ k => XS.aload X26.here hx rfl (hb hby at_290) rfl rfl k) ?_
            show Goes p e below s _ _ _ T26 (mkF m 292 #[.val (.int p1), .val (.int p2), .val (.int p3), .val (.int p4), .val (.int p5), .val (.int (Int32.ofNat n)), .val (.int (0 : Int32)), .val (.int (0 : Int32)), .val (.int (1 : Int32)), .val (.ref b12), .val (.ref b14), .val (.int (4 : Int32)), .val (.ref r20)] [(.ref r20)])
            refine Goes.step (fun _ k => XS.aload X26.here hx rfl (hb hby at_292) rfl rfl k) ?_
            show Goes p e below s _ _ _ T26 (mkF m 294 #[.val (.int p1), .val (.int p2), .val (.int p3), .val (.int p4), .val (.int p5), .val (.int (Int32.ofNat n)), .val (.int (0 : Int32)), .val (.int (0 : Int32)), .val (.int (1 : Int32)), .val (.ref b12), .val (.ref b14), .val (.int (4 : Int32)), .val (.ref r20)] [(.ref b14), (.ref r20)])
            refine Goes.step (fun _ k => XS.iload X26.here hx rfl (hb hby at_294) rfl k) ?_
            show Goes p e below s _ _ _ T26 (mkF m 296 #[.val (.int p1), .val (.int p2), .val (.int p3), .val (.int p4), .val (.int p5), .val (.int (Int32.ofNat n)), .val (.int (0 : Int32)), .val (.int (0 : Int32)), .val (.int (1 : Int32)), .val (.ref b12), .val (.ref b14), .val (.int (4 : Int32)), .val (.ref r20)] [(.int (4 : Int32)), (.ref b14), (.ref r20)])
            refine Goes.step (fun _ k => XS.bipush X26.here hx rfl (hb hby at_296) k) ?_
            show Goes p e below s _ _ _ T26 (mkF m 298 #[.val (.int p1), .val (.int p2), .val (.int p3), .val (.int p4), .val (.int p5), .val (.int (Int32.ofNat n)), .val (.int (0 : Int32)), .val (.int (0 : Int32)), .val (.int (1 : Int32)), .val (.ref b12), .val (.ref b14), .val (.int (4 : Int32)), .val (.ref r20)] [(.int (6 : Int32)), (.int (4 : Int32)), (.ref b14), (.ref r20)])
            obtain ⟨T27, X27, e27, st27⟩ := callPure X26 hx hZ (y := (⟨"com/example/proxysmith/proxysmith/BytesToByteArrayPinLaw", "same", "([B[BII)Z"⟩ : MethodName)) hown (hw _ (List.mem_of_getElem? (i := 48) rfl)) (hw _ (List.mem_of_getElem? (i := 49) rfl)) (hw _ (List.mem_of_getElem? (i := 50) rfl)) (hw _ (List.mem_of_getElem? (i := 51) rfl)) (by decide) (W := 0) (argsL := [(.ref r20), (.ref b14), (.int (4 : Int32)), (.int (6 : Int32))]) (rest := []) (r := (.int (1 : Int32))) (fun _ _ _ q => q) (rm10a l Z a0 hw [] r20 b14 (4 : Int32) (6 : Int32) h20 n0 z_20 (by decide)) (by decide) (by decide) (by decide) (by decide) e26 (g := (mkF m 298 #[.val (.int p1), .val (.int p2), .val (.int p3), .val (.int p4), .val (.int p5), .val (.int (Int32.ofNat n)), .val (.int (0 : Int32)), .val (.int (0 : Int32)), .val (.int (1 : Int32)), .val (.ref b12), .val (.ref b14), .val (.int (4 : Int32)), .val (.ref r20)] [(.int (6 : Int32)), (.int (4 : Int32)), (.ref b14), (.ref r20)])) rfl (by rw [hml]; rfl) (lenOf pd_0_2 rfl) rfl (by show 2 * 0 + _ ≤ _; exact Nat.le_of_eq rfl) (hb hby at_298)
            refine Goes.step st27 ?_
            show Goes p e below s _ _ _ T27 (mkF m 301 #[.val (.int p1), .val (.int p2), .val (.int p3), .val (.int p4), .val (.int p5), .val (.int (Int32.ofNat n)), .val (.int (0 : Int32)), .val (.int (0 : Int32)), .val (.int (1 : Int32)), .val (.ref b12), .val (.ref b14), .val (.int (4 : Int32)), .val (.ref r20)] [(.int (1 : Int32))])
            refine Goes.step (fun _ k => XS.ifNo X27.here hx rfl (hb hby at_301) rfl ((if0 _ _).trans (feq (by decide : ¬ ((1 : Int32) = (0 : Int32)))).1) k) ?_
            show Goes p e below s _ _ _ T27 (mkF m 304 #[.val (.int p1), .val (.int p2), .val (.int p3), .val (.int p4), .val (.int p5), .val (.int (Int32.ofNat n)), .val (.int (0 : Int32)), .val (.int (0 : Int32)), .val (.int (1 : Int32)), .val (.ref b12), .val (.ref b14), .val (.int (4 : Int32)), .val (.ref r20)] [])
            refine Goes.step (fun _ k => XS.iconst X27.here hx rfl (hb hby at_304) k) ?_
            show Goes p e below s _ _ _ T27 (mkF m 305 #[.val (.int p1), .val (.int p2), .val (.int p3), .val (.int p4), .val (.int p5), .val (.int (Int32.ofNat n)), .val (.int (0 : Int32)), .val (.int (0 : Int32)), .val (.int (1 : Int32)), .val (.ref b12), .val (.ref b14), .val (.int (4 : Int32)), .val (.ref r20)] [(.int (1 : Int32))])
            refine Goes.step (fun _ k => XS.goto X27.here hx rfl (pc0 := 305) (pc' := 309) rfl (hb hby at_305) (by decide) (by decide) k) ?_
            show Goes p e below s _ _ _ T27 (mkF m 309 #[.val (.int p1), .val (.int p2), .val (.int p3), .val (.int p4), .val (.int p5), .val (.int (Int32.ofNat n)), .val (.int (0 : Int32)), .val (.int (0 : Int32)), .val (.int (1 : Int32)), .val (.ref b12), .val (.ref b14), .val (.int (4 : Int32)), .val (.ref r20)] [(.int (1 : Int32))])
            exact Goes.outN X27 hx hlk (t := .boolean) Bd.returns (by simp) (hb hby at_309) ⟨rfl, N_20⟩ (by decide) (by decide)
    · refine Goes.step (fun _ k => XS.ifNo X0.here hx rfl (hb hby at_22) rfl ((if0 _ _).trans (feq hc22).1) k) ?_
      show Goes p e below s _ _ _ s₁ (mkF m 25 #[.val (.int p1), .val (.int p2), .val (.int p3), .val (.int p4), .val (.int p5), .val (.int (Int32.ofNat n)), .val (.int (0 : Int32)), .unset, .unset, .unset, .unset, .unset, .unset] [])
      refine Goes.step (fun _ k => XS.iconst X0.here hx rfl (hb hby at_25) k) ?_
      show Goes p e below s _ _ _ s₁ (mkF m 26 #[.val (.int p1), .val (.int p2), .val (.int p3), .val (.int p4), .val (.int p5), .val (.int (Int32.ofNat n)), .val (.int (0 : Int32)), .unset, .unset, .unset, .unset, .unset, .unset] [(.int (1 : Int32))])
      refine Goes.step (fun _ k => XS.goto X0.here hx rfl (pc0 := 26) (pc' := 30) rfl (hb hby at_26) (by decide) (by decide) k) ?_
      show Goes p e below s _ _ _ s₁ (mkF m 30 #[.val (.int p1), .val (.int p2), .val (.int p3), .val (.int p4), .val (.int p5), .val (.int (Int32.ofNat n)), .val (.int (0 : Int32)), .unset, .unset, .unset, .unset, .unset, .unset] [(.int (1 : Int32))])
      refine Goes.step (fun _ k => XS.istore X0.here hx rfl (hb hby at_30) rfl (l' := #[.val (.int p1), .val (.int p2), .val (.int p3), .val (.int p4), .val (.int p5), .val (.int (Int32.ofNat n)), .val (.int (0 : Int32)), .val (.int (1 : Int32)), .unset, .unset, .unset, .unset, .unset]) rfl k) ?_
      show Goes p e below s _ _ _ s₁ (mkF m 32 #[.val (.int p1), .val (.int p2), .val (.int p3), .val (.int p4), .val (.int p5), .val (.int (Int32.ofNat n)), .val (.int (0 : Int32)), .val (.int (1 : Int32)), .unset, .unset, .unset, .unset, .unset] [])
      refine Goes.step (fun _ k => XS.iloadN X0.here hx rfl (hb hby at_32) rfl k) ?_
      show Goes p e below s _ _ _ s₁ (mkF m 33 #[.val (.int p1), .val (.int p2), .val (.int p3), .val (.int p4), .val (.int p5), .val (.int (Int32.ofNat n)), .val (.int (0 : Int32)), .val (.int (1 : Int32)), .unset, .unset, .unset, .unset, .unset] [(.int p2)])
      refine Goes.step (fun _ k => XS.iconst X0.here hx rfl (hb hby at_33) k) ?_
      show Goes p e below s _ _ _ s₁ (mkF m 34 #[.val (.int p1), .val (.int p2), .val (.int p3), .val (.int p4), .val (.int p5), .val (.int (Int32.ofNat n)), .val (.int (0 : Int32)), .val (.int (1 : Int32)), .unset, .unset, .unset, .unset, .unset] [(.int (4 : Int32)), (.int p2)])
      refine Goes.step (fun _ k => XS.iand X0.here hx rfl (hb hby at_34) rfl k) ?_
      show Goes p e below s _ _ _ s₁ (mkF m 35 #[.val (.int p1), .val (.int p2), .val (.int p3), .val (.int p4), .val (.int p5), .val (.int (Int32.ofNat n)), .val (.int (0 : Int32)), .val (.int (1 : Int32)), .unset, .unset, .unset, .unset, .unset] [(.int (p2 &&& (4 : Int32)))])
      by_cases hc35 : (p2 &&& (4 : Int32)) = (0 : Int32)
      · refine Goes.step (fun _ k => XS.ifYes X0.here hx rfl (pc0 := 35) (pc' := 42) rfl (hb hby at_35) rfl ((if0 _ _).trans (teq hc35).1) (by decide) (by decide) k) ?_
        show Goes p e below s _ _ _ s₁ (mkF m 42 #[.val (.int p1), .val (.int p2), .val (.int p3), .val (.int p4), .val (.int p5), .val (.int (Int32.ofNat n)), .val (.int (0 : Int32)), .val (.int (1 : Int32)), .unset, .unset, .unset, .unset, .unset] [])
        refine Goes.step (fun _ k => XS.iconst X0.here hx rfl (hb hby at_42) k) ?_
        show Goes p e below s _ _ _ s₁ (mkF m 43 #[.val (.int p1), .val (.int p2), .val (.int p3), .val (.int p4), .val (.int p5), .val (.int (Int32.ofNat n)), .val (.int (0 : Int32)), .val (.int (1 : Int32)), .unset, .unset, .unset, .unset, .unset] [(.int (0 : Int32))])
        refine Goes.step (fun _ k => XS.istore X0.here hx rfl (hb hby at_43) rfl (l' := #[.val (.int p1), .val (.int p2), .val (.int p3), .val (.int p4), .val (.int p5), .val (.int (Int32.ofNat n)), .val (.int (0 : Int32)), .val (.int (1 : Int32)), .val (.int (0 : Int32)), .unset, .unset, .unset, .unset]) rfl k) ?_
        show Goes p e below s _ _ _ s₁ (mkF m 45 #[.val (.int p1), .val (.int p2), .val (.int p3), .val (.int p4), .val (.int p5), .val (.int (Int32.ofNat n)), .val (.int (0 : Int32)), .val (.int (1 : Int32)), .val (.int (0 : Int32)), .unset, .unset, .unset, .unset] [])
        obtain ⟨T28, h28, X28, e28, E28, A28, D28, -, st28⟩ := newO X0 hx hZ hown (hw _ (List.mem_of_getElem? (i := 0) rfl)) (hw _ (List.mem_of_getElem? (i := 1) rfl)) (hw _ (List.mem_of_getElem? (i := 2) rfl)) e0 (g := (mkF m 45 #[.val (.int p1), .val (.int p2), .val (.int p3), .val (.int p4), .val (.int p5), .val (.int (Int32.ofNat n)), .val (.int (0 : Int32)), .val (.int (1 : Int32)), .val (.int (0 : Int32)), .unset, .unset, .unset, .unset] [])) rfl (hb hby at_45) (by decide) (by decide)
        obtain ⟨b28, g_28⟩ : ∃ z, z = h0.size := ⟨_, rfl⟩
        rw [← g_28] at A28 D28 st28
        refine Goes.step st28 ?_
        have ge_b28 : n0 ≤ b28 := by rw [g_28]; exact Z0
        have sz_b28 : h0.size ≤ b28 := by rw [g_28]; exact K0.1
        have z_28 : n0 ≤ h28.size := Nat.le_trans Z0 E28.1
        have K_28 : Keep h0 h28 [] := K0.ext E28
        have E_b28_28 : Exa Z h28 b28 "com/example/proxysmith/proxysmith/ClassFileWriter$Bytes" := A28
        have F_b28_bytes_28 : Fld Z h28 b28 "com/example/proxysmith/proxysmith/ClassFileWriter$Bytes" "bytes" "[B" .null := D28 (Or.inl (hw _ (List.mem_of_getElem? (i := 11) rfl))) (ty := (.array .byte)) (by decide)
        have F_b28_size_28 : Fld Z h28 b28 "com/example/proxysmith/proxysmith/ClassFileWriter$Bytes" "size" "I" (.int (0 : Int32)) := D28 (Or.inl (hw _ (List.mem_of_getElem? (i := 22) rfl))) (ty := .int) (by decide)
        show Goes p e below s _ _ _ T28 (mkF m 48 #[.val (.int p1), .val (.int p2), .val (.int p3), .val (.int p4), .val (.int p5), .val (.int (Int32.ofNat n)), .val (.int (0 : Int32)), .val (.int (1 : Int32)), .val (.int (0 : Int32)), .unset, .unset, .unset, .unset] [(.ref b28)])
        refine Goes.step (fun _ k => XS.dup X28.here hx rfl (hb hby at_48) rfl rfl k) ?_
        show Goes p e below s _ _ _ T28 (mkF m 49 #[.val (.int p1), .val (.int p2), .val (.int p3), .val (.int p4), .val (.int p5), .val (.int (Int32.ofNat n)), .val (.int (0 : Int32)), .val (.int (1 : Int32)), .val (.int (0 : Int32)), .unset, .unset, .unset, .unset] [(.ref b28), (.ref b28)])
        refine Goes.step (fun _ k => XS.iload X28.here hx rfl (hb hby at_49) rfl k) ?_
        show Goes p e below s _ _ _ T28 (mkF m 51 #[.val (.int p1), .val (.int p2), .val (.int p3), .val (.int p4), .val (.int p5), .val (.int (Int32.ofNat n)), .val (.int (0 : Int32)), .val (.int (1 : Int32)), .val (.int (0 : Int32)), .unset, .unset, .unset, .unset] [(.int (Int32.ofNat n)), (.ref b28), (.ref b28)])
        obtain ⟨v29, T29, h29, L29, X29, e29, Q29, st29⟩ := callXI X28 hx hZ (b := b28) (y := (⟨"com/example/proxysmith/proxysmith/ClassFileWriter$Bytes", "<init>", "(I)V"⟩ : MethodName)) hown rfl (hw _ (List.mem_of_getElem? (i := 3) rfl)) (hw _ (List.mem_of_getElem? (i := 4) rfl)) (hw _ (List.mem_of_getElem? (i := 5) rfl)) (hw _ (List.mem_of_getElem? (i := 2) rfl)) (by decide) (W := 1) (argsL := [(.int (Int32.ofNat n))]) (rest := [(.ref b28)]) (rm1 l Z a0 hw [] b28 n h28 n0 z_28 E_b28_28 F_b28_bytes_28 F_b28_size_28 ge_b28 hn) (by decide) (by decide) (by decide) (by decide) e28 (g := (mkF m 51 #[.val (.int p1), .val (.int p2), .val (.int p3), .val (.int p4), .val (.int p5), .val (.int (Int32.ofNat n)), .val (.int (0 : Int32)), .val (.int (1 : Int32)), .val (.int (0 : Int32)), .unset, .unset, .unset, .unset] [(.int (Int32.ofNat n)), (.ref b28), (.ref b28)])) rfl (by rw [hml]; rfl) (lenOf pd_0_0 rfl) rfl (by show 2 * 0 + _ ≤ _; exact Nat.le_of_eq rfl) (hb hby at_51)
        obtain ⟨b29, rfl, NQ29, KQ29, hE29, hFb29, hFs29, hA29, hab29, hg29, hb29⟩ := Q29
        refine Goes.step st29 ?_
        have E_b28_29 := E_b28_28.keep KQ29
        have z_29 : n0 ≤ h29.size := Nat.le_trans z_28 KQ29.1
        have K_29 : Keep h0 h29 [] := Keep.trans K_28 KQ29 (allS (Or.inr sz_b28) all0)
        have N_29 := Fr.app N0 NQ29
        show Goes p e below s _ _ _ T29 (mkF m 54 #[.val (.int p1), .val (.int p2), .val (.int p3), .val (.int p4), .val (.int p5), .val (.int (Int32.ofNat n)), .val (.int (0 : Int32)), .val (.int (1 : Int32)), .val (.int (0 : Int32)), .unset, .unset, .unset, .unset] [(.ref b28)])
        refine Goes.step (fun _ k => XS.astore X29.here hx rfl (hb hby at_54) rfl rfl (l' := #[.val (.int p1), .val (.int p2), .val (.int p3), .val (.int p4), .val (.int p5), .val (.int (Int32.ofNat n)), .val (.int (0 : Int32)), .val (.int (1 : Int32)), .val (.int (0 : Int32)), .val (.ref b28), .unset, .unset, .unset]) rfl k) ?_
        show Goes p e below s _ _ _ T29 (mkF m 56 #[.val (.int p1), .val (.int p2), .val (.int p3), .val (.int p4), .val (.int p5), .val (.int (Int32.ofNat n)), .val (.int (0 : Int32)), .val (.int (1 : Int32)), .val (.int (0 : Int32)), .val (.ref b28), .unset, .unset, .unset] [])
        refine Goes.step (fun _ k => XS.bipush X29.here hx rfl (hb hby at_56) k) ?_
        show Goes p e below s _ _ _ T29 (mkF m 58 #[.val (.int p1), .val (.int p2), .val (.int p3), .val (.int p4), .val (.int p5), .val (.int (Int32.ofNat n)), .val (.int (0 : Int32)), .val (.int (1 : Int32)), .val (.int (0 : Int32)), .val (.ref b28), .unset, .unset, .unset] [(.int (7 : Int32))])
        obtain ⟨T30, h30, X30, e30, E30, A30, st30⟩ := newI X29 hx hZ (hw _ (List.mem_of_getElem? (i := 9) rfl)) e29 (g := (mkF m 58 #[.val (.int p1), .val (.int p2), .val (.int p3), .val (.int p4), .val (.int p5), .val (.int (Int32.ofNat n)), .val (.int (0 : Int32)), .val (.int (1 : Int32)), .val (.int (0 : Int32)), .val (.ref b28), .unset, .unset, .unset] [(.int (7 : Int32))])) rfl (hb hby at_58) rfl (N := 7) rfl (cap := 7) (by decide) (by decide) (by decide) (by decide) rfl (by decide)
        obtain ⟨b30, g_30⟩ : ∃ z, z = h29.size := ⟨_, rfl⟩
        rw [← g_30] at A30 st30
        refine Goes.step st30 ?_
        have ne_b28_b30 : b28 ≠ b30 := Nat.ne_of_lt (by rw [g_30]; exact hE29.lt)
        have ne_b29_b30 : b29 ≠ b30 := Nat.ne_of_lt (by rw [g_30]; exact hA29.lt)
        have ge_b30 : n0 ≤ b30 := by rw [g_30]; exact z_29
        have sz_b30 : h0.size ≤ b30 := by rw [g_30]; exact K_29.1
        have hE29_30 := hE29.ext E30
        have hFb29_30 := hFb29.ext E30
        have hFs29_30 := hFs29.ext E30
        have hA29_30 := hA29.ext E30
        have z_30 : n0 ≤ h30.size := Nat.le_trans z_29 E30.1
        have K_30 : Keep h0 h30 [] := K_29.ext E30
        have A_b30_30 : Ari Z h30 b30 .byte (7) (fun _ => 0) := A30
        show Goes p e below s _ _ _ T30 (mkF m 60 #[.val (.int p1), .val (.int p2), .val (.int p3), .val (.int p4), .val (.int p5), .val (.int (Int32.ofNat n)), .val (.int (0 : Int32)), .val (.int (1 : Int32)), .val (.int (0 : Int32)), .val (.ref b28), .unset, .unset, .unset] [(.ref b30)])
        refine Goes.step (fun _ k => XS.astore X30.here hx rfl (hb hby at_60) rfl rfl (l' := #[.val (.int p1), .val (.int p2), .val (.int p3), .val (.int p4), .val (.int p5), .val (.int (Int32.ofNat n)), .val (.int (0 : Int32)), .val (.int (1 : Int32)), .val (.int (0 : Int32)), .val (.ref b28), .val (.ref b30), .unset, .unset]) rfl k) ?_
        show Goes p e below s _ _ _ T30 (mkF m 62 #[.val (.int p1), .val (.int p2), .val (.int p3), .val (.int p4), .val (.int p5), .val (.int (Int32.ofNat n)), .val (.int (0 : Int32)), .val (.int (1 : Int32)), .val (.int (0 : Int32)), .val (.ref b28), .val (.ref b30), .unset, .unset] [])
        refine Goes.step (fun _ k => XS.iconst X30.here hx rfl (hb hby at_62) k) ?_
        show Goes p e below s _ _ _ T30 (mkF m 63 #[.val (.int p1), .val (.int p2), .val (.int p3), .val (.int p4), .val (.int p5), .val (.int (Int32.ofNat n)), .val (.int (0 : Int32)), .val (.int (1 : Int32)), .val (.int (0 : Int32)), .val (.ref b28), .val (.ref b30), .unset, .unset] [(.int (0 : Int32))])
        refine Goes.step (fun _ k => XS.istore X30.here hx rfl (hb hby at_63) rfl (l' := #[.val (.int p1), .val (.int p2), .val (.int p3), .val (.int p4), .val (.int p5), .val (.int (Int32.ofNat n)), .val (.int (0 : Int32)), .val (.int (1 : Int32)), .val (.int (0 : Int32)), .val (.ref b28), .val (.ref b30), .val (.int (0 : Int32)), .unset]) rfl k) ?_
        show Goes p e below s _ _ _ T30 (mkF m 65 #[.val (.int p1), .val (.int p2), .val (.int p3), .val (.int p4), .val (.int p5), .val (.int (Int32.ofNat n)), .val (.int (0 : Int32)), .val (.int (1 : Int32)), .val (.int (0 : Int32)), .val (.ref b28), .val (.ref b30), .val (.int (0 : Int32)), .unset] [])
        refine Goes.step (fun _ k => XS.iload X30.here hx rfl (hb hby at_65) rfl k) ?_
        show Goes p e below s _ _ _ T30 (mkF m 67 #[.val (.int p1), .val (.int p2), .val (.int p3), .val (.int p4), .val (.int p5), .val (.int (Int32.ofNat n)), .val (.int (0 : Int32)), .val (.int (1 : Int32)), .val (.int (0 : Int32)), .val (.ref b28), .val (.ref b30), .val (.int (0 : Int32)), .unset] [(.int (0 : Int32))])
        refine Goes.step (fun _ k => XS.ifYes X30.here hx rfl (pc0 := 67) (pc' := 89) rfl (hb hby at_67) rfl ((if0 _ _).trans (teq (by decide : (0 : Int32) = (0 : Int32))).1) (by decide) (by decide) k) ?_
        show Goes p e below s _ _ _ T30 (mkF m 89 #[.val (.int p1), .val (.int p2), .val (.int p3), .val (.int p4), .val (.int p5), .val (.int (Int32.ofNat n)), .val (.int (0 : Int32)), .val (.int (1 : Int32)), .val (.int (0 : Int32)), .val (.ref b28), .val (.ref b30), .val (.int (0 : Int32)), .unset] [])
        refine Goes.step (fun _ k => XS.iload X30.here hx rfl (hb hby at_89) rfl k) ?_
        show Goes p e below s _ _ _ T30 (mkF m 91 #[.val (.int p1), .val (.int p2), .val (.int p3), .val (.int p4), .val (.int p5), .val (.int (Int32.ofNat n)), .val (.int (0 : Int32)), .val (.int (1 : Int32)), .val (.int (0 : Int32)), .val (.ref b28), .val (.ref b30), .val (.int (0 : Int32)), .unset] [(.int (1 : Int32))])
        refine Goes.step (fun _ k => XS.ifNo X30.here hx rfl (hb hby at_91) rfl ((if0 _ _).trans (feq (by decide : ¬ ((1 : Int32) = (0 : Int32)))).1) k) ?_
        show Goes p e below s _ _ _ T30 (mkF m 94 #[.val (.int p1), .val (.int p2), .val (.int p3), .val (.int p4), .val (.int p5), .val (.int (Int32.ofNat n)), .val (.int (0 : Int32)), .val (.int (1 : Int32)), .val (.int (0 : Int32)), .val (.ref b28), .val (.ref b30), .val (.int (0 : Int32)), .unset] [])
        refine Goes.step (fun _ k => XS.aload X30.here hx rfl (hb hby at_94) rfl rfl k) ?_
        show Goes p e below s _ _ _ T30 (mkF m 96 #[.val (.int p1), .val (.int p2), .val (.int p3), .val (.int p4), .val (.int p5), .val (.int (Int32.ofNat n)), .val (.int (0 : Int32)), .val (.int (1 : Int32)), .val (.int (0 : Int32)), .val (.ref b28), .val (.ref b30), .val (.int (0 : Int32)), .unset] [(.ref b30)])
        refine Goes.step (fun _ k => XS.iload X30.here hx rfl (hb hby at_96) rfl k) ?_
        show Goes p e below s _ _ _ T30 (mkF m 98 #[.val (.int p1), .val (.int p2), .val (.int p3), .val (.int p4), .val (.int p5), .val (.int (Int32.ofNat n)), .val (.int (0 : Int32)), .val (.int (1 : Int32)), .val (.int (0 : Int32)), .val (.ref b28), .val (.ref b30), .val (.int (0 : Int32)), .unset] [(.int (0 : Int32)), (.ref b30)])
        refine Goes.step (fun _ k => XS.iloadN X30.here hx rfl (hb hby at_98) rfl k) ?_
        show Goes p e below s _ _ _ T30 (mkF m 99 #[.val (.int p1), .val (.int p2), .val (.int p3), .val (.int p4), .val (.int p5), .val (.int (Int32.ofNat n)), .val (.int (0 : Int32)), .val (.int (1 : Int32)), .val (.int (0 : Int32)), .val (.ref b28), .val (.ref b30), .val (.int (0 : Int32)), .unset] [(.int p4), (.int (0 : Int32)), (.ref b30)])
        refine Goes.step (fun _ k => XS.bipush X30.here hx rfl (hb hby at_99) k) ?_
        show Goes p e below s _ _ _ T30 (mkF m 101 #[.val (.int p1), .val (.int p2), .val (.int p3), .val (.int p4), .val (.int p5), .val (.int (Int32.ofNat n)), .val (.int (0 : Int32)), .val (.int (1 : Int32)), .val (.int (0 : Int32)), .val (.ref b28), .val (.ref b30), .val (.int (0 : Int32)), .unset] [(.int (8 : Int32)), (.int p4), (.int (0 : Int32)), (.ref b30)])
        refine Goes.step (fun _ k => XS.iushr X30.here hx rfl (hb hby at_101) rfl k) ?_
        show Goes p e below s _ _ _ T30 (mkF m 102 #[.val (.int p1), .val (.int p2), .val (.int p3), .val (.int p4), .val (.int p5), .val (.int (Int32.ofNat n)), .val (.int (0 : Int32)), .val (.int (1 : Int32)), .val (.int (0 : Int32)), .val (.ref b28), .val (.ref b30), .val (.int (0 : Int32)), .unset] [(.int ((p4.toUInt32 >>> ((8 : Int32) &&& 31).toUInt32).toInt32)), (.int (0 : Int32)), (.ref b30)])
        refine Goes.step (fun _ k => XS.i2b X30.here hx rfl (hb hby at_102) rfl k) ?_
        show Goes p e below s _ _ _ T30 (mkF m 103 #[.val (.int p1), .val (.int p2), .val (.int p3), .val (.int p4), .val (.int p5), .val (.int (Int32.ofNat n)), .val (.int (0 : Int32)), .val (.int (1 : Int32)), .val (.int (0 : Int32)), .val (.ref b28), .val (.ref b30), .val (.int (0 : Int32)), .unset] [(.int (((p4.toUInt32 >>> ((8 : Int32) &&& 31).toUInt32).toInt32).toInt8.toInt32)), (.int (0 : Int32)), (.ref b30)])
        obtain ⟨T31, h31, X31, e31, W31, A31, st31⟩ := stoB X30 hx hZ e30 A_b30_30 (0) rfl (by decide) (g := (mkF m 103 #[.val (.int p1), .val (.int p2), .val (.int p3), .val (.int p4), .val (.int p5), .val (.int (Int32.ofNat n)), .val (.int (0 : Int32)), .val (.int (1 : Int32)), .val (.int (0 : Int32)), .val (.ref b28), .val (.ref b30), .val (.int (0 : Int32)), .unset] [(.int (((p4.toUInt32 >>> ((8 : Int32) &&& 31).toUInt32).toInt32).toInt8.toInt32)), (.int (0 : Int32)), (.ref b30)])) rfl rfl (hb hby at_103)
        refine Goes.step st31 ?_
        have hE29_31 := hE29_30.wr W31
        have hFb29_31 := hFb29_30.other W31 (Or.inl ne_b28_b30)
        have hFs29_31 := hFs29_30.other W31 (Or.inl ne_b28_b30)
        have hA29_31 := hA29_30.other W31 ne_b29_b30
        have z_31 : n0 ≤ h31.size := by rw [W31.size]; exact z_30
        have K_31 : Keep h0 h31 [] := K_30.wr W31 (Or.inr sz_b30)
        have N_31 := Fr.snoc X31 N_29 ge_b30
        have A_b30_31 : Ari Z h31 b30 .byte (7) (updI (fun _ => 0) (0) ((((p4.toUInt32 >>> ((8 : Int32) &&& 31).toUInt32).toInt32).toInt8.toInt32).toInt8.toInt32)) := A31
        show Goes p e below s _ _ _ T31 (mkF m 104 #[.val (.int p1), .val (.int p2), .val (.int p3), .val (.int p4), .val (.int p5), .val (.int (Int32.ofNat n)), .val (.int (0 : Int32)), .val (.int (1 : Int32)), .val (.int (0 : Int32)), .val (.ref b28), .val (.ref b30), .val (.int (0 : Int32)), .unset] [])
        refine Goes.step (fun _ k => XS.aload X31.here hx rfl (hb hby at_104) rfl rfl k) ?_
        show Goes p e below s _ _ _ T31 (mkF m 106 #[.val (.int p1), .val (.int p2), .val (.int p3), .val (.int p4), .val (.int p5), .val (.int (Int32.ofNat n)), .val (.int (0 : Int32)), .val (.int (1 : Int32)), .val (.int (0 : Int32)), .val (.ref b28), .val (.ref b30), .val (.int (0 : Int32)), .unset] [(.ref b30)])
        refine Goes.step (fun _ k => XS.iload X31.here hx rfl (hb hby at_106) rfl k) ?_
        show Goes p e below s _ _ _ T31 (mkF m 108 #[.val (.int p1), .val (.int p2), .val (.int p3), .val (.int p4), .val (.int p5), .val (.int (Int32.ofNat n)), .val (.int (0 : Int32)), .val (.int (1 : Int32)), .val (.int (0 : Int32)), .val (.ref b28), .val (.ref b30), .val (.int (0 : Int32)), .unset] [(.int (0 : Int32)), (.ref b30)])
        refine Goes.step (fun _ k => XS.iconst X31.here hx rfl (hb hby at_108) k) ?_
        show Goes p e below s _ _ _ T31 (mkF m 109 #[.val (.int p1), .val (.int p2), .val (.int p3), .val (.int p4), .val (.int p5), .val (.int (Int32.ofNat n)), .val (.int (0 : Int32)), .val (.int (1 : Int32)), .val (.int (0 : Int32)), .val (.ref b28), .val (.ref b30), .val (.int (0 : Int32)), .unset] [(.int (1 : Int32)), (.int (0 : Int32)), (.ref b30)])
        refine Goes.step (fun _ k => XS.iadd X31.here hx rfl (hb hby at_109) rfl k) ?_
        show Goes p e below s _ _ _ T31 (mkF m 110 #[.val (.int p1), .val (.int p2), .val (.int p3), .val (.int p4), .val (.int p5), .val (.int (Int32.ofNat n)), .val (.int (0 : Int32)), .val (.int (1 : Int32)), .val (.int (0 : Int32)), .val (.ref b28), .val (.ref b30), .val (.int (0 : Int32)), .unset] [(.int (1 : Int32)), (.ref b30)])
        refine Goes.step (fun _ k => XS.iloadN X31.here hx rfl (hb hby at_110) rfl k) ?_
        show Goes p e below s _ _ _ T31 (mkF m 111 #[.val (.int p1), .val (.int p2), .val (.int p3), .val (.int p4), .val (.int p5), .val (.int (Int32.ofNat n)), .val (.int (0 : Int32)), .val (.int (1 : Int32)), .val (.int (0 : Int32)), .val (.ref b28), .val (.ref b30), .val (.int (0 : Int32)), .unset] [(.int p4), (.int (1 : Int32)), (.ref b30)])
        refine Goes.step (fun _ k => XS.i2b X31.here hx rfl (hb hby at_111) rfl k) ?_
        show Goes p e below s _ _ _ T31 (mkF m 112 #[.val (.int p1), .val (.int p2), .val (.int p3), .val (.int p4), .val (.int p5), .val (.int (Int32.ofNat n)), .val (.int (0 : Int32)), .val (.int (1 : Int32)), .val (.int (0 : Int32)), .val (.ref b28), .val (.ref b30), .val (.int (0 : Int32)), .unset] [(.int (p4.toInt8.toInt32)), (.int (1 : Int32)), (.ref b30)])
        obtain ⟨T32, h32, X32, e32, W32, A32, st32⟩ := stoB X31 hx hZ e31 A_b30_31 (1) rfl (by decide) (g := (mkF m 112 #[.val (.int p1), .val (.int p2), .val (.int p3), .val (.int p4), .val (.int p5), .val (.int (Int32.ofNat n)), .val (.int (0 : Int32)), .val (.int (1 : Int32)), .val (.int (0 : Int32)), .val (.ref b28), .val (.ref b30), .val (.int (0 : Int32)), .unset] [(.int (p4.toInt8.toInt32)), (.int (1 : Int32)), (.ref b30)])) rfl rfl (hb hby at_112)
        refine Goes.step st32 ?_
        have hE29_32 := hE29_31.wr W32
        have hFb29_32 := hFb29_31.other W32 (Or.inl ne_b28_b30)
        have hFs29_32 := hFs29_31.other W32 (Or.inl ne_b28_b30)
        have hA29_32 := hA29_31.other W32 ne_b29_b30
        have z_32 : n0 ≤ h32.size := by rw [W32.size]; exact z_31
        have K_32 : Keep h0 h32 [] := K_31.wr W32 (Or.inr sz_b30)
        have N_32 := Fr.snoc X32 N_31 ge_b30
        have A_b30_32 : Ari Z h32 b30 .byte (7) (updI (updI (fun _ => 0) (0) ((((p4.toUInt32 >>> ((8 : Int32) &&& 31).toUInt32).toInt32).toInt8.toInt32).toInt8.toInt32)) (1) ((p4.toInt8.toInt32).toInt8.toInt32)) := A32
        show Goes p e below s _ _ _ T32 (mkF m 113 #[.val (.int p1), .val (.int p2), .val (.int p3), .val (.int p4), .val (.int p5), .val (.int (Int32.ofNat n)), .val (.int (0 : Int32)), .val (.int (1 : Int32)), .val (.int (0 : Int32)), .val (.ref b28), .val (.ref b30), .val (.int (0 : Int32)), .unset] [])
        refine Goes.step (fun _ k => XS.iload X32.here hx rfl (hb hby at_113) rfl k) ?_
        show Goes p e below s _ _ _ T32 (mkF m 115 #[.val (.int p1), .val (.int p2), .val (.int p3), .val (.int p4), .val (.int p5), .val (.int (Int32.ofNat n)), .val (.int (0 : Int32)), .val (.int (1 : Int32)), .val (.int (0 : Int32)), .val (.ref b28), .val (.ref b30), .val (.int (0 : Int32)), .unset] [(.int (0 : Int32))])
        refine Goes.step (fun _ k => XS.iconst X32.here hx rfl (hb hby at_115) k) ?_
        show Goes p e below s _ _ _ T32 (mkF m 116 #[.val (.int p1), .val (.int p2), .val (.int p3), .val (.int p4), .val (.int p5), .val (.int (Int32.ofNat n)), .val (.int (0 : Int32)), .val (.int (1 : Int32)), .val (.int (0 : Int32)), .val (.ref b28), .val (.ref b30), .val (.int (0 : Int32)), .unset] [(.int (2 : Int32)), (.int (0 : Int32))])
        refine Goes.step (fun _ k => XS.iadd X32.here hx rfl (hb hby at_116) rfl k) ?_
        show Goes p e below s _ _ _ T32 (mkF m 117 #[.val (.int p1), .val (.int p2), .val (.int p3), .val (.int p4), .val (.int p5), .val (.int (Int32.ofNat n)), .val (.int (0 : Int32)), .val (.int (1 : Int32)), .val (.int (0 : Int32)), .val (.ref b28), .val (.ref b30), .val (.int (0 : Int32)), .unset] [(.int (2 : Int32))])
        refine Goes.step (fun _ k => XS.istore X32.here hx rfl (hb hby at_117) rfl (l' := #[.val (.int p1), .val (.int p2), .val (.int p3), .val (.int p4), .val (.int p5), .val (.int (Int32.ofNat n)), .val (.int (0 : Int32)), .val (.int (1 : Int32)), .val (.int (0 : Int32)), .val (.ref b28), .val (.ref b30), .val (.int (2 : Int32)), .unset]) rfl k) ?_
        show Goes p e below s _ _ _ T32 (mkF m 119 #[.val (.int p1), .val (.int p2), .val (.int p3), .val (.int p4), .val (.int p5), .val (.int (Int32.ofNat n)), .val (.int (0 : Int32)), .val (.int (1 : Int32)), .val (.int (0 : Int32)), .val (.ref b28), .val (.ref b30), .val (.int (2 : Int32)), .unset] [])
        refine Goes.step (fun _ k => XS.aload X32.here hx rfl (hb hby at_119) rfl rfl k) ?_
        show Goes p e below s _ _ _ T32 (mkF m 121 #[.val (.int p1), .val (.int p2), .val (.int p3), .val (.int p4), .val (.int p5), .val (.int (Int32.ofNat n)), .val (.int (0 : Int32)), .val (.int (1 : Int32)), .val (.int (0 : Int32)), .val (.ref b28), .val (.ref b30), .val (.int (2 : Int32)), .unset] [(.ref b28)])
        refine Goes.step (fun _ k => XS.iloadN X32.here hx rfl (hb hby at_121) rfl k) ?_
        show Goes p e below s _ _ _ T32 (mkF m 122 #[.val (.int p1), .val (.int p2), .val (.int p3), .val (.int p4), .val (.int p5), .val (.int (Int32.ofNat n)), .val (.int (0 : Int32)), .val (.int (1 : Int32)), .val (.int (0 : Int32)), .val (.ref b28), .val (.ref b30), .val (.int (2 : Int32)), .unset] [(.int p4), (.ref b28)])
        obtain ⟨v33, T33, h33, L33, X33, e33, Q33, st33⟩ := callXV X32 hx hZ (C := "com/example/proxysmith/proxysmith/ClassFileWriter$Bytes") (b := b28) (y := (⟨"com/example/proxysmith/proxysmith/ClassFileWriter$Bytes", "u2", "(I)V"⟩ : MethodName)) (z := (⟨"com/example/proxysmith/proxysmith/ClassFileWriter$Bytes", "u2", "(I)V"⟩ : MethodName)) hown (hw _ (List.mem_of_getElem? (i := 38) rfl)) (hw _ (List.mem_of_getElem? (i := 39) rfl)) (hw _ (List.mem_of_getElem? (i := 41) rfl)) (hw _ (List.mem_of_getElem? (i := 40) rfl)) (hw _ (List.mem_of_getElem? (i := 42) rfl)) (hw _ (List.mem_of_getElem? (i := 2) rfl)) (notFace_of_selects (args := #[]) (mvT hZ (hw _ (List.mem_of_getElem? (i := 41) rfl)))) (by decide) (W := 0) (argsL := [(.int p4)]) (rest := []) (rm8 l Z a0 hw [] b28 p4 b29 n 0 (fun _ => 0) h32 n0 z_32 hE29_32 hFb29_32 hFs29_32 hA29_32 hab29 ge_b28 hg29 (Nat.zero_le n) (Nat.le_trans hn (by decide)) (by omega)) (by decide) (by decide) (by decide) (by decide) e32 hE29_32 (g := (mkF m 122 #[.val (.int p1), .val (.int p2), .val (.int p3), .val (.int p4), .val (.int p5), .val (.int (Int32.ofNat n)), .val (.int (0 : Int32)), .val (.int (1 : Int32)), .val (.int (0 : Int32)), .val (.ref b28), .val (.ref b30), .val (.int (2 : Int32)), .unset] [(.int p4), (.ref b28)])) rfl (by rw [hml]; rfl) (lenOf pd_0_0 rfl) rfl (by show 2 * 0 + _ ≤ _; exact Nat.le_of_eq rfl) (hb hby at_122)
        obtain ⟨b33, n33, f33, rfl, NQ33, KQ33, hE33, hFb33, hFs33, hA33, hab33, hg33, ho33, hs33, hn33, hf33, hv33, hu33⟩ := Q33
        refine Goes.step st33 ?_
        have hE29_33 := hE29_32.keep KQ33
        have A_b30_33 := A_b30_32.keep KQ33 (ninS (Ne.symm ne_b28_b30) (ninS (Ne.symm ne_b29_b30) nin0))
        have z_33 : n0 ≤ h33.size := Nat.le_trans z_32 KQ33.1
        have K_33 : Keep h0 h33 [] := Keep.trans K_32 KQ33 (allS (Or.inr sz_b28) (allS (Or.inr (Nat.le_trans K_28.1 hb29)) all0))
        have N_33 := Fr.app N_32 NQ33
        have ne_b30_b33 : b30 ≠ b33 := ho33.elim (fun q z => (Ne.symm ne_b29_b30) (z.trans q)) (fun q => Nat.ne_of_lt (Nat.lt_of_lt_of_le A_b30_32.lt q))
        have mem_b33 : b33 ∈ [] ∨ h0.size ≤ b33 := ho33.elim (fun q => q ▸ (Or.inr (Nat.le_trans K_28.1 hb29))) (fun q => Or.inr (Nat.le_trans K_32.1 q))
        show Goes p e below s _ _ _ T33 (mkF m 125 #[.val (.int p1), .val (.int p2), .val (.int p3), .val (.int p4), .val (.int p5), .val (.int (Int32.ofNat n)), .val (.int (0 : Int32)), .val (.int (1 : Int32)), .val (.int (0 : Int32)), .val (.ref b28), .val (.ref b30), .val (.int (2 : Int32)), .unset] [])
        refine Goes.step (fun _ k => XS.iload X33.here hx rfl (hb hby at_125) rfl k) ?_
        show Goes p e below s _ _ _ T33 (mkF m 127 #[.val (.int p1), .val (.int p2), .val (.int p3), .val (.int p4), .val (.int p5), .val (.int (Int32.ofNat n)), .val (.int (0 : Int32)), .val (.int (1 : Int32)), .val (.int (0 : Int32)), .val (.ref b28), .val (.ref b30), .val (.int (2 : Int32)), .unset] [(.int (0 : Int32))])
        refine Goes.step (fun _ k => XS.ifYes X33.here hx rfl (pc0 := 127) (pc' := 190) rfl (hb hby at_127) rfl ((if0 _ _).trans (teq (by decide : (0 : Int32) = (0 : Int32))).1) (by decide) (by decide) k) ?_
        show Goes p e below s _ _ _ T33 (mkF m 190 #[.val (.int p1), .val (.int p2), .val (.int p3), .val (.int p4), .val (.int p5), .val (.int (Int32.ofNat n)), .val (.int (0 : Int32)), .val (.int (1 : Int32)), .val (.int (0 : Int32)), .val (.ref b28), .val (.ref b30), .val (.int (2 : Int32)), .unset] [])
        refine Goes.step (fun _ k => XS.aload X33.here hx rfl (hb hby at_190) rfl rfl k) ?_
        show Goes p e below s _ _ _ T33 (mkF m 192 #[.val (.int p1), .val (.int p2), .val (.int p3), .val (.int p4), .val (.int p5), .val (.int (Int32.ofNat n)), .val (.int (0 : Int32)), .val (.int (1 : Int32)), .val (.int (0 : Int32)), .val (.ref b28), .val (.ref b30), .val (.int (2 : Int32)), .unset] [(.ref b28)])
        obtain ⟨v34, T34, h34, L34, X34, e34, Q34, st34⟩ := callXV X33 hx hZ (C := "com/example/proxysmith/proxysmith/ClassFileWriter$Bytes") (b := b28) (y := (⟨"com/example/proxysmith/proxysmith/ClassFileWriter$Bytes", "toByteArray", "()[B"⟩ : MethodName)) (z := (⟨"com/example/proxysmith/proxysmith/ClassFileWriter$Bytes", "toByteArray", "()[B"⟩ : MethodName)) hown (hw _ (List.mem_of_getElem? (i := 43) rfl)) (hw _ (List.mem_of_getElem? (i := 44) rfl)) (hw _ (List.mem_of_getElem? (i := 46) rfl)) (hw _ (List.mem_of_getElem? (i := 45) rfl)) (hw _ (List.mem_of_getElem? (i := 47) rfl)) (hw _ (List.mem_of_getElem? (i := 2) rfl)) (notFace_of_selects (args := #[]) (mvT hZ (hw _ (List.mem_of_getElem? (i := 46) rfl)))) (by decide) (W := 0) (argsL := []) (rest := []) (rm9 l Z a0 hw [] b28 b33 n33 2 f33 h33 n0 z_33 hE33 hFb33 hFs33 hA33 hab33 ge_b28 hg33 hs33 hn33 (by omega)) (by decide) (by decide) (by decide) (by decide) e33 hE33 (g := (mkF m 192 #[.val (.int p1), .val (.int p2), .val (.int p3), .val (.int p4), .val (.int p5), .val (.int (Int32.ofNat n)), .val (.int (0 : Int32)), .val (.int (1 : Int32)), .val (.int (0 : Int32)), .val (.ref b28), .val (.ref b30), .val (.int (2 : Int32)), .unset] [(.ref b28)])) rfl (by rw [hml]; rfl) (lenOf pd_0_1 rfl) rfl (by show 2 * 0 + _ ≤ _; exact Nat.le_of_eq rfl) (hb hby at_192)
        obtain ⟨r34, rfl, NQ34, KQ34, g34, hA34, hg34⟩ := Q34
        refine Goes.step st34 ?_
        have hE33_34 := hE33.keep KQ34
        have A_b30_34 := A_b30_33.keep KQ34 nin0
        have hFb33_34 := hFb33.keep KQ34 nin0
        have hFs33_34 := hFs33.keep KQ34 nin0
        have hA33_34 := hA33.keep KQ34 nin0
        have z_34 : n0 ≤ h34.size := Nat.le_trans z_33 KQ34.1
        have K_34 : Keep h0 h34 [] := Keep.trans K_33 KQ34 all0
        have N_34 := Fr.app N_33 NQ34
        show Goes p e below s _ _ _ T34 (mkF m 195 #[.val (.int p1), .val (.int p2), .val (.int p3), .val (.int p4), .val (.int p5), .val (.int (Int32.ofNat n)), .val (.int (0 : Int32)), .val (.int (1 : Int32)), .val (.int (0 : Int32)), .val (.ref b28), .val (.ref b30), .val (.int (2 : Int32)), .unset] [(.ref r34)])
        refine Goes.step (fun _ k => XS.astore X34.here hx rfl (hb hby at_195) rfl rfl (l' := #[.val (.int p1), .val (.int p2), .val (.int p3), .val (.int p4), .val (.int p5), .val (.int (Int32.ofNat n)), .val (.int (0 : Int32)), .val (.int (1 : Int32)), .val (.int (0 : Int32)), .val (.ref b28), .val (.ref b30), .val (.int (2 : Int32)), .val (.ref r34)]) rfl k) ?_
        show Goes p e below s _ _ _ T34 (mkF m 197 #[.val (.int p1), .val (.int p2), .val (.int p3), .val (.int p4), .val (.int p5), .val (.int (Int32.ofNat n)), .val (.int (0 : Int32)), .val (.int (1 : Int32)), .val (.int (0 : Int32)), .val (.ref b28), .val (.ref b30), .val (.int (2 : Int32)), .val (.ref r34)] [])
        refine Goes.step (fun _ k => XS.aload X34.here hx rfl (hb hby at_197) rfl rfl k) ?_
        show Goes p e below s _ _ _ T34 (mkF m 199 #[.val (.int p1), .val (.int p2), .val (.int p3), .val (.int p4), .val (.int p5), .val (.int (Int32.ofNat n)), .val (.int (0 : Int32)), .val (.int (1 : Int32)), .val (.int (0 : Int32)), .val (.ref b28), .val (.ref b30), .val (.int (2 : Int32)), .val (.ref r34)] [(.ref r34)])
        refine Goes.step (fun _ k => XS.ifnullNo X34.here hx rfl (hb hby at_199) rfl k) ?_
        show Goes p e below s _ _ _ T34 (mkF m 202 #[.val (.int p1), .val (.int p2), .val (.int p3), .val (.int p4), .val (.int p5), .val (.int (Int32.ofNat n)), .val (.int (0 : Int32)), .val (.int (1 : Int32)), .val (.int (0 : Int32)), .val (.ref b28), .val (.ref b30), .val (.int (2 : Int32)), .val (.ref r34)] [])
        as_aux_lemma =>
          refine Goes.step (fun _ k => XS.aload X34.here hx rfl (hb hby at_202) rfl rfl k) ?_
          show Goes p e below s _ _ _ T34 (mkF m 204 #[.val (.int p1), .val (.int p2), .val (.int p3), .val (.int p4), .val (.int p5), .val (.int (Int32.ofNat n)), .val (.int (0 : Int32)), .val (.int (1 : Int32)), .val (.int (0 : Int32)), .val (.ref b28), .val (.ref b30), .val (.int (2 : Int32)), .val (.ref r34)] [(.ref r34)])
          refine Goes.step (fun _ k => rdL X34 hx hZ e34 hA34 (g := (mkF m 204 #[.val (.int p1), .val (.int p2), .val (.int p3), .val (.int p4), .val (.int p5), .val (.int (Int32.ofNat n)), .val (.int (0 : Int32)), .val (.int (1 : Int32)), .val (.int (0 : Int32)), .val (.ref b28), .val (.ref b30), .val (.int (2 : Int32)), .val (.ref r34)] [(.ref r34)])) rfl rfl (hb hby at_204) _ k) ?_
          show Goes p e below s _ _ _ T34 (mkF m 205 #[.val (.int p1), .val (.int p2), .val (.int p3), .val (.int p4), .val (.int p5), .val (.int (Int32.ofNat n)), .val (.int (0 : Int32)), .val (.int (1 : Int32)), .val (.int (0 : Int32)), .val (.ref b28), .val (.ref b30), .val (.int (2 : Int32)), .val (.ref r34)] [(.int (Int32.ofNat 2))])
          refine Goes.step (fun _ k => XS.iload X34.here hx rfl (hb hby at_205) rfl k) ?_
          show Goes p e below s _ _ _ T34 (mkF m 207 #[.val (.int p1), .val (.int p2), .val (.int p3), .val (.int p4), .val (.int p5), .val (.int (Int32.ofNat n)), .val (.int (0 : Int32)), .val (.int (1 : Int32)), .val (.int (0 : Int32)), .val (.ref b28), .val (.ref b30), .val (.int (2 : Int32)), .val (.ref r34)] [(.int (2 : Int32)), (.int (Int32.ofNat 2))])
          refine Goes.step (fun _ k => XS.icmpYes X34.here hx rfl (pc0 := 207) (pc' := 212) rfl (hb hby at_207) rfl (teq (by decide : (Int32.ofNat 2) = (2 : Int32))).1 (by decide) (by decide) k) ?_
          show Goes p e below s _ _ _ T34 (mkF m 212 #[.val (.int p1), .val (.int p2), .val (.int p3), .val (.int p4), .val (.int p5), .val (.int (Int32.ofNat n)), .val (.int (0 : Int32)), .val (.int (1 : Int32)), .val (.int (0 : Int32)), .val (.ref b28), .val (.ref b30), .val (.int (2 : Int32)), .val (.ref r34)] [])
          refine Goes.step (fun _ k => XS.aload X34.here hx rfl (hb hby at_212) rfl rfl k) ?_
          show Goes p e below s _ _ _ T34 (mkF m 214 #[.val (.int p1), .val (.int p2), .val (.int p3), .val (.int p4), .val (.int p5), .val (.int (Int32.ofNat n)), .val (.int (0 : Int32)), .val (.int (1 : Int32)), .val (.int (0 : Int32)), .val (.ref b28), .val (.ref b30), .val (.int (2 : Int32)), .val (.ref r34)] [(.ref r34)])
          refine Goes.step (fun _ k => XS.aload X34.here hx rfl (hb hby at_214) rfl rfl k) ?_
          show Goes p e below s _ _ _ T34 (mkF m 216 #[.val (.int p1), .val (.int p2), .val (.int p3), .val (.int p4), .val (.int p5), .val (.int (Int32.ofNat n)), .val (.int (0 : Int32)), .val (.int (1 : Int32)), .val (.int (0 : Int32)), .val (.ref b28), .val (.ref b30), .val (.int (2 : Int32)), .val (.ref r34)] [(.ref b30), (.ref r34)])
          refine Goes.step (fun _ k => XS.iload X34.here hx rfl (hb hby at_216) rfl k) ?_
          show Goes p e below s _ _ _ T34 (mkF m 218 #[.val (.int p1), .val (.int p2), .val (.int p3), .val (.int p4), .val (.int p5), .val (.int (Int32.ofNat n)), .val (.int (0 : Int32)), .val (.int (1 : Int32)), .val (.int (0 : Int32)), .val (.ref b28), .val (.ref b30), .val (.int (2 : Int32)), .val (.ref r34)] [(.int (2 : Int32)), (.ref b30), (.ref r34)])
          refine Goes.step (fun _ k => XS.iconst X34.here hx rfl (hb hby at_218) k) ?_
          show Goes p e below s _ _ _ T34 (mkF m 219 #[.val (.int p1), .val (.int p2), .val (.int p3), .val (.int p4), .val (.int p5), .val (.int (Int32.ofNat n)), .val (.int (0 : Int32)), .val (.int (1 : Int32)), .val (.int (0 : Int32)), .val (.ref b28), .val (.ref b30), .val (.int (2 : Int32)), .val (.ref r34)] [(.int (0 : Int32)), (.int (2 : Int32)), (.ref b30), (.ref r34)])
          obtain ⟨T35, X35, e35, st35⟩ := callPure X34 hx hZ (y := (⟨"com/example/proxysmith/proxysmith/BytesToByteArrayPinLaw", "same", "([B[BII)Z"⟩ : MethodName)) hown (hw _ (List.mem_of_getElem? (i := 48) rfl)) (hw _ (List.mem_of_getElem? (i := 49) rfl)) (hw _ (List.mem_of_getElem? (i := 50) rfl)) (hw _ (List.mem_of_getElem? (i := 51) rfl)) (by decide) (W := 0) (argsL := [(.ref r34), (.ref b30), (.int (2 : Int32)), (.int (0 : Int32))]) (rest := []) (r := (.int (1 : Int32))) (fun _ _ _ q => q) (rm10b l Z a0 hw [] r34 b30 (2 : Int32) (0 : Int32) 0 2 7 g34 (updI (updI (fun _ => 0) (0) ((((p4.toUInt32 >>> ((8 : Int32) &&& 31).toUInt32).toInt32).toInt8.toInt32).toInt8.toInt32)) (1) ((p4.toInt8.toInt32).toInt8.toInt32)) h34 n0 z_34 (by decide) rfl hA34 A_b30_34 (by decide) (by decide) ((hg34 0 (by omega)).trans (hv33.trans (own_BB _).symm))) (by decide) (by decide) (by decide) (by decide) e34 (g := (mkF m 219 #[.val (.int p1), .val (.int p2), .val (.int p3), .val (.int p4), .val (.int p5), .val (.int (Int32.ofNat n)), .val (.int (0 : Int32)), .val (.int (1 : Int32)), .val (.int (0 : Int32)), .val (.ref b28), .val (.ref b30), .val (.int (2 : Int32)), .val (.ref r34)] [(.int (0 : Int32)), (.int (2 : Int32)), (.ref b30), (.ref r34)])) rfl (by rw [hml]; rfl) (lenOf pd_0_2 rfl) rfl (by show 2 * 0 + _ ≤ _; exact Nat.le_of_eq rfl) (hb hby at_219)
          refine Goes.step st35 ?_
          show Goes p e below s _ _ _ T35 (mkF m 222 #[.val (.int p1), .val (.int p2), .val (.int p3), .val (.int p4), .val (.int p5), .val (.int (Int32.ofNat n)), .val (.int (0 : Int32)), .val (.int (1 : Int32)), .val (.int (0 : Int32)), .val (.ref b28), .val (.ref b30), .val (.int (2 : Int32)), .val (.ref r34)] [(.int (1 : Int32))])
          refine Goes.step (fun _ k => XS.ifNo X35.here hx rfl (hb hby at_222) rfl ((if0 _ _).trans (feq (by decide : ¬ ((1 : Int32) = (0 : Int32)))).1) k) ?_
          show Goes p e below s _ _ _ T35 (mkF m 225 #[.val (.int p1), .val (.int p2), .val (.int p3), .val (.int p4), .val (.int p5), .val (.int (Int32.ofNat n)), .val (.int (0 : Int32)), .val (.int (1 : Int32)), .val (.int (0 : Int32)), .val (.ref b28), .val (.ref b30), .val (.int (2 : Int32)), .val (.ref r34)] [])
          refine Goes.step (fun _ k => XS.aload X35.here hx rfl (hb hby at_225) rfl rfl k) ?_
          show Goes p e below s _ _ _ T35 (mkF m 227 #[.val (.int p1), .val (.int p2), .val (.int p3), .val (.int p4), .val (.int p5), .val (.int (Int32.ofNat n)), .val (.int (0 : Int32)), .val (.int (1 : Int32)), .val (.int (0 : Int32)), .val (.ref b28), .val (.ref b30), .val (.int (2 : Int32)), .val (.ref r34)] [(.ref r34)])
          refine Goes.step (fun _ k => XS.aload X35.here hx rfl (hb hby at_227) rfl rfl k) ?_
          show Goes p e below s _ _ _ T35 (mkF m 229 #[.val (.int p1), .val (.int p2), .val (.int p3), .val (.int p4), .val (.int p5), .val (.int (Int32.ofNat n)), .val (.int (0 : Int32)), .val (.int (1 : Int32)), .val (.int (0 : Int32)), .val (.ref b28), .val (.ref b30), .val (.int (2 : Int32)), .val (.ref r34)] [(.ref b30), (.ref r34)])
          refine Goes.step (fun _ k => XS.iload X35.here hx rfl (hb hby at_229) rfl k) ?_
          show Goes p e below s _ _ _ T35 (mkF m 231 #[.val (.int p1), .val (.int p2), .val (.int p3), .val (.int p4), .val (.int p5), .val (.int (Int32.ofNat n)), .val (.int (0 : Int32)), .val (.int (1 : Int32)), .val (.int (0 : Int32)), .val (.ref b28), .val (.ref b30), .val (.int (2 : Int32)), .val (.ref r34)] [(.int (2 : Int32)), (.ref b30), (.ref r34)])
          refine Goes.step (fun _ k => XS.iconst X35.here hx rfl (hb hby at_231) k) ?_
          show Goes p e below s _ _ _ T35 (mkF m 232 #[.val (.int p1), .val (.int p2), .val (.int p3), .val (.int p4), .val (.int p5), .val (.int (Int32.ofNat n)), .val (.int (0 : Int32)), .val (.int (1 : Int32)), .val (.int (0 : Int32)), .val (.ref b28), .val (.ref b30), .val (.int (2 : Int32)), .val (.ref r34)] [(.int (1 : Int32)), (.int (2 : Int32)), (.ref b30), (.ref r34)])
          obtain ⟨T36, X36, e36, st36⟩ := callPure X35 hx hZ (y := (⟨"com/example/proxysmith/proxysmith/BytesToByteArrayPinLaw", "same", "([B[BII)Z"⟩ : MethodName)) hown (hw _ (List.mem_of_getElem? (i := 48) rfl)) (hw _ (List.mem_of_getElem? (i := 49) rfl)) (hw _ (List.mem_of_getElem? (i := 50) rfl)) (hw _ (List.mem_of_getElem? (i := 51) rfl)) (by decide) (W := 0) (argsL := [(.ref r34), (.ref b30), (.int (2 : Int32)), (.int (1 : Int32))]) (rest := []) (r := (.int (1 : Int32))) (fun _ _ _ q => q) (rm10b l Z a0 hw [] r34 b30 (2 : Int32) (1 : Int32) 1 2 7 g34 (updI (updI (fun _ => 0) (0) ((((p4.toUInt32 >>> ((8 : Int32) &&& 31).toUInt32).toInt32).toInt8.toInt32).toInt8.toInt32)) (1) ((p4.toInt8.toInt32).toInt8.toInt32)) h34 n0 z_34 (by decide) rfl hA34 A_b30_34 (by decide) (by decide) ((hg34 1 (by omega)).trans (hu33.trans (own_BB _).symm))) (by decide) (by decide) (by decide) (by decide) e35 (g := (mkF m 232 #[.val (.int p1), .val (.int p2), .val (.int p3), .val (.int p4), .val (.int p5), .val (.int (Int32.ofNat n)), .val (.int (0 : Int32)), .val (.int (1 : Int32)), .val (.int (0 : Int32)), .val (.ref b28), .val (.ref b30), .val (.int (2 : Int32)), .val (.ref r34)] [(.int (1 : Int32)), (.int (2 : Int32)), (.ref b30), (.ref r34)])) rfl (by rw [hml]; rfl) (lenOf pd_0_2 rfl) rfl (by show 2 * 0 + _ ≤ _; exact Nat.le_of_eq rfl) (hb hby at_232)
          refine Goes.step st36 ?_
          show Goes p e below s _ _ _ T36 (mkF m 235 #[.val (.int p1), .val (.int p2), .val (.int p3), .val (.int p4), .val (.int p5), .val (.int (Int32.ofNat n)), .val (.int (0 : Int32)), .val (.int (1 : Int32)), .val (.int (0 : Int32)), .val (.ref b28), .val (.ref b30), .val (.int (2 : Int32)), .val (.ref r34)] [(.int (1 : Int32))])
          refine Goes.step (fun _ k => XS.ifNo X36.here hx rfl (hb hby at_235) rfl ((if0 _ _).trans (feq (by decide : ¬ ((1 : Int32) = (0 : Int32)))).1) k) ?_
          show Goes p e below s _ _ _ T36 (mkF m 238 #[.val (.int p1), .val (.int p2), .val (.int p3), .val (.int p4), .val (.int p5), .val (.int (Int32.ofNat n)), .val (.int (0 : Int32)), .val (.int (1 : Int32)), .val (.int (0 : Int32)), .val (.ref b28), .val (.ref b30), .val (.int (2 : Int32)), .val (.ref r34)] [])
          refine Goes.step (fun _ k => XS.aload X36.here hx rfl (hb hby at_238) rfl rfl k) ?_
          show Goes p e below s _ _ _ T36 (mkF m 240 #[.val (.int p1), .val (.int p2), .val (.int p3), .val (.int p4), .val (.int p5), .val (.int (Int32.ofNat n)), .val (.int (0 : Int32)), .val (.int (1 : Int32)), .val (.int (0 : Int32)), .val (.ref b28), .val (.ref b30), .val (.int (2 : Int32)), .val (.ref r34)] [(.ref r34)])
          refine Goes.step (fun _ k => XS.aload X36.here hx rfl (hb hby at_240) rfl rfl k) ?_
          show Goes p e below s _ _ _ T36 (mkF m 242 #[.val (.int p1), .val (.int p2), .val (.int p3), .val (.int p4), .val (.int p5), .val (.int (Int32.ofNat n)), .val (.int (0 : Int32)), .val (.int (1 : Int32)), .val (.int (0 : Int32)), .val (.ref b28), .val (.ref b30), .val (.int (2 : Int32)), .val (.ref r34)] [(.ref b30), (.ref r34)])
          refine Goes.step (fun _ k => XS.iload X36.here hx rfl (hb hby at_242) rfl k) ?_
          show Goes p e below s _ _ _ T36 (mkF m 244 #[.val (.int p1), .val (.int p2), .val (.int p3), .val (.int p4), .val (.int p5), .val (.int (Int32.ofNat n)), .val (.int (0 : Int32)), .val (.int (1 : Int32)), .val (.int (0 : Int32)), .val (.ref b28), .val (.ref b30), .val (.int (2 : Int32)), .val (.ref r34)] [(.int (2 : Int32)), (.ref b30), (.ref r34)])
          refine Goes.step (fun _ k => XS.iconst X36.here hx rfl (hb hby at_244) k) ?_
          show Goes p e below s _ _ _ T36 (mkF m 245 #[.val (.int p1), .val (.int p2), .val (.int p3), .val (.int p4), .val (.int p5), .val (.int (Int32.ofNat n)), .val (.int (0 : Int32)), .val (.int (1 : Int32)), .val (.int (0 : Int32)), .val (.ref b28), .val (.ref b30), .val (.int (2 : Int32)), .val (.ref r34)] [(.int (2 : Int32)), (.int (2 : Int32)), (.ref b30), (.ref r34)])
          obtain ⟨T37, X37, e37, st37⟩ := callPure X36 hx hZ (y := (⟨"com/example/proxysmith/proxysmith/BytesToByteArrayPinLaw", "same", "([B[BII)Z"⟩ : MethodName)) hown (hw _ (List.mem_of_getElem? (i := 48) rfl)) (hw _ (List.mem_of_getElem? (i := 49) rfl)) (hw _ (List.mem_of_getElem? (i := 50) rfl)) (hw _ (List.mem_of_getElem? (i := 51) rfl)) (by decide) (W := 0) (argsL := [(.ref r34), (.ref b30), (.int (2 : Int32)), (.int (2 : Int32))]) (rest := []) (r := (.int (1 : Int32))) (fun _ _ _ q => q) (rm10a l Z a0 hw [] r34 b30 (2 : Int32) (2 : Int32) h34 n0 z_34 (by decide)) (by decide) (by decide) (by decide) (by decide) e36 (g := (mkF m 245 #[.val (.int p1), .val (.int p2), .val (.int p3), .val (.int p4), .val (.int p5), .val (.int (Int32.ofNat n)), .val (.int (0 : Int32)), .val (.int (1 : Int32)), .val (.int (0 : Int32)), .val (.ref b28), .val (.ref b30), .val (.int (2 : Int32)), .val (.ref r34)] [(.int (2 : Int32)), (.int (2 : Int32)), (.ref b30), (.ref r34)])) rfl (by rw [hml]; rfl) (lenOf pd_0_2 rfl) rfl (by show 2 * 0 + _ ≤ _; exact Nat.le_of_eq rfl) (hb hby at_245)
          refine Goes.step st37 ?_
          show Goes p e below s _ _ _ T37 (mkF m 248 #[.val (.int p1), .val (.int p2), .val (.int p3), .val (.int p4), .val (.int p5), .val (.int (Int32.ofNat n)), .val (.int (0 : Int32)), .val (.int (1 : Int32)), .val (.int (0 : Int32)), .val (.ref b28), .val (.ref b30), .val (.int (2 : Int32)), .val (.ref r34)] [(.int (1 : Int32))])
          refine Goes.step (fun _ k => XS.ifNo X37.here hx rfl (hb hby at_248) rfl ((if0 _ _).trans (feq (by decide : ¬ ((1 : Int32) = (0 : Int32)))).1) k) ?_
          show Goes p e below s _ _ _ T37 (mkF m 251 #[.val (.int p1), .val (.int p2), .val (.int p3), .val (.int p4), .val (.int p5), .val (.int (Int32.ofNat n)), .val (.int (0 : Int32)), .val (.int (1 : Int32)), .val (.int (0 : Int32)), .val (.ref b28), .val (.ref b30), .val (.int (2 : Int32)), .val (.ref r34)] [])
          refine Goes.step (fun _ k => XS.aload X37.here hx rfl (hb hby at_251) rfl rfl k) ?_
          show Goes p e below s _ _ _ T37 (mkF m 253 #[.val (.int p1), .val (.int p2), .val (.int p3), .val (.int p4), .val (.int p5), .val (.int (Int32.ofNat n)), .val (.int (0 : Int32)), .val (.int (1 : Int32)), .val (.int (0 : Int32)), .val (.ref b28), .val (.ref b30), .val (.int (2 : Int32)), .val (.ref r34)] [(.ref r34)])
          refine Goes.step (fun _ k => XS.aload X37.here hx rfl (hb hby at_253) rfl rfl k) ?_
          show Goes p e below s _ _ _ T37 (mkF m 255 #[.val (.int p1), .val (.int p2), .val (.int p3), .val (.int p4), .val (.int p5), .val (.int (Int32.ofNat n)), .val (.int (0 : Int32)), .val (.int (1 : Int32)), .val (.int (0 : Int32)), .val (.ref b28), .val (.ref b30), .val (.int (2 : Int32)), .val (.ref r34)] [(.ref b30), (.ref r34)])
          refine Goes.step (fun _ k => XS.iload X37.here hx rfl (hb hby at_255) rfl k) ?_
          show Goes p e below s _ _ _ T37 (mkF m 257 #[.val (.int p1), .val (.int p2), .val (.int p3), .val (.int p4), .val (.int p5), .val (.int (Int32.ofNat n)), .val (.int (0 : Int32)), .val (.int (1 : Int32)), .val (.int (0 : Int32)), .val (.ref b28), .val (.ref b30), .val (.int (2 : Int32)), .val (.ref r34)] [(.int (2 : Int32)), (.ref b30), (.ref r34)])
          refine Goes.step (fun _ k => XS.iconst X37.here hx rfl (hb hby at_257) k) ?_
          show Goes p e below s _ _ _ T37 (mkF m 258 #[.val (.int p1), .val (.int p2), .val (.int p3), .val (.int p4), .val (.int p5), .val (.int (Int32.ofNat n)), .val (.int (0 : Int32)), .val (.int (1 : Int32)), .val (.int (0 : Int32)), .val (.ref b28), .val (.ref b30), .val (.int (2 : Int32)), .val (.ref r34)] [(.int (3 : Int32)), (.int (2 : Int32)), (.ref b30), (.ref r34)])
          obtain ⟨T38, X38, e38, st38⟩ := callPure X37 hx hZ (y := (⟨"com/example/proxysmith/proxysmith/BytesToByteArrayPinLaw", "same", "([B[BII)Z"⟩ : MethodName)) hown (hw _ (List.mem_of_getElem? (i := 48) rfl)) (hw _ (List.mem_of_getElem? (i := 49) rfl)) (hw _ (List.mem_of_getElem? (i := 50) rfl)) (hw _ (List.mem_of_getElem? (i := 51) rfl)) (by decide) (W := 0) (argsL := [(.ref r34), (.ref b30), (.int (2 : Int32)), (.int (3 : Int32))]) (rest := []) (r := (.int (1 : Int32))) (fun _ _ _ q => q) (rm10a l Z a0 hw [] r34 b30 (2 : Int32) (3 : Int32) h34 n0 z_34 (by decide)) (by decide) (by decide) (by decide) (by decide) e37 (g := (mkF m 258 #[.val (.int p1), .val (.int p2), .val (.int p3), .val (.int p4), .val (.int p5), .val (.int (Int32.ofNat n)), .val (.int (0 : Int32)), .val (.int (1 : Int32)), .val (.int (0 : Int32)), .val (.ref b28), .val (.ref b30), .val (.int (2 : Int32)), .val (.ref r34)] [(.int (3 : Int32)), (.int (2 : Int32)), (.ref b30), (.ref r34)])) rfl (by rw [hml]; rfl) (lenOf pd_0_2 rfl) rfl (by show 2 * 0 + _ ≤ _; exact Nat.le_of_eq rfl) (hb hby at_258)
          refine Goes.step st38 ?_
          show Goes p e below s _ _ _ T38 (mkF m 261 #[.val (.int p1), .val (.int p2), .val (.int p3), .val (.int p4), .val (.int p5), .val (.int (Int32.ofNat n)), .val (.int (0 : Int32)), .val (.int (1 : Int32)), .val (.int (0 : Int32)), .val (.ref b28), .val (.ref b30), .val (.int (2 : Int32)), .val (.ref r34)] [(.int (1 : Int32))])
          refine Goes.step (fun _ k => XS.ifNo X38.here hx rfl (hb hby at_261) rfl ((if0 _ _).trans (feq (by decide : ¬ ((1 : Int32) = (0 : Int32)))).1) k) ?_
          show Goes p e below s _ _ _ T38 (mkF m 264 #[.val (.int p1), .val (.int p2), .val (.int p3), .val (.int p4), .val (.int p5), .val (.int (Int32.ofNat n)), .val (.int (0 : Int32)), .val (.int (1 : Int32)), .val (.int (0 : Int32)), .val (.ref b28), .val (.ref b30), .val (.int (2 : Int32)), .val (.ref r34)] [])
          refine Goes.step (fun _ k => XS.aload X38.here hx rfl (hb hby at_264) rfl rfl k) ?_
          show Goes p e below s _ _ _ T38 (mkF m 266 #[.val (.int p1), .val (.int p2), .val (.int p3), .val (.int p4), .val (.int p5), .val (.int (Int32.ofNat n)), .val (.int (0 : Int32)), .val (.int (1 : Int32)), .val (.int (0 : Int32)), .val (.ref b28), .val (.ref b30), .val (.int (2 : Int32)), .val (.ref r34)] [(.ref r34)])
          refine Goes.step (fun _ k => XS.aload X38.here hx rfl (hb hby at_266) rfl rfl k) ?_
          show Goes p e below s _ _ _ T38 (mkF m 268 #[.val (.int p1), .val (.int p2), .val (.int p3), .val (.int p4), .val (.int p5), .val (.int (Int32.ofNat n)), .val (.int (0 : Int32)), .val (.int (1 : Int32)), .val (.int (0 : Int32)), .val (.ref b28), .val (.ref b30), .val (.int (2 : Int32)), .val (.ref r34)] [(.ref b30), (.ref r34)])
          refine Goes.step (fun _ k => XS.iload X38.here hx rfl (hb hby at_268) rfl k) ?_
          show Goes p e below s _ _ _ T38 (mkF m 270 #[.val (.int p1), .val (.int p2), .val (.int p3), .val (.int p4), .val (.int p5), .val (.int (Int32.ofNat n)), .val (.int (0 : Int32)), .val (.int (1 : Int32)), .val (.int (0 : Int32)), .val (.ref b28), .val (.ref b30), .val (.int (2 : Int32)), .val (.ref r34)] [(.int (2 : Int32)), (.ref b30), (.ref r34)])
          refine Goes.step (fun _ k => XS.iconst X38.here hx rfl (hb hby at_270) k) ?_
          show Goes p e below s _ _ _ T38 (mkF m 271 #[.val (.int p1), .val (.int p2), .val (.int p3), .val (.int p4), .val (.int p5), .val (.int (Int32.ofNat n)), .val (.int (0 : Int32)), .val (.int (1 : Int32)), .val (.int (0 : Int32)), .val (.ref b28), .val (.ref b30), .val (.int (2 : Int32)), .val (.ref r34)] [(.int (4 : Int32)), (.int (2 : Int32)), (.ref b30), (.ref r34)])
          obtain ⟨T39, X39, e39, st39⟩ := callPure X38 hx hZ (y := (⟨"com/example/proxysmith/proxysmith/BytesToByteArrayPinLaw", "same", "([B[BII)Z"⟩ : MethodName)) hown (hw _ (List.mem_of_getElem? (i := 48) rfl)) (hw _ (List.mem_of_getElem? (i := 49) rfl)) (hw _ (List.mem_of_getElem? (i := 50) rfl)) (hw _ (List.mem_of_getElem? (i := 51) rfl)) (by decide) (W := 0) (argsL := [(.ref r34), (.ref b30), (.int (2 : Int32)), (.int (4 : Int32))]) (rest := []) (r := (.int (1 : Int32))) (fun _ _ _ q => q) (rm10a l Z a0 hw [] r34 b30 (2 : Int32) (4 : Int32) h34 n0 z_34 (by decide)) (by decide) (by decide) (by decide) (by decide) e38 (g := (mkF m 271 #[.val (.int p1), .val (.int p2), .val (.int p3), .val (.int p4), .val (.int p5), .val (.int (Int32.ofNat n)), .val (.int (0 : Int32)), .val (.int (1 : Int32)), .val (.int (0 : Int32)), .val (.ref b28), .val (.ref b30), .val (.int (2 : Int32)), .val (.ref r34)] [(.int (4 : Int32)), (.int (2 : Int32)), (.ref b30), (.ref r34)])) rfl (by rw [hml]; rfl) (lenOf pd_0_2 rfl) rfl (by show 2 * 0 + _ ≤ _; exact Nat.le_of_eq rfl) (hb hby at_271)
          refine Goes.step st39 ?_
          show Goes p e below s _ _ _ T39 (mkF m 274 #[.val (.int p1), .val (.int p2), .val (.int p3), .val (.int p4), .val (.int p5), .val (.int (Int32.ofNat n)), .val (.int (0 : Int32)), .val (.int (1 : Int32)), .val (.int (0 : Int32)), .val (.ref b28), .val (.ref b30), .val (.int (2 : Int32)), .val (.ref r34)] [(.int (1 : Int32))])
          refine Goes.step (fun _ k => XS.ifNo X39.here hx rfl (hb hby at_274) rfl ((if0 _ _).trans (feq (by decide : ¬ ((1 : Int32) = (0 : Int32)))).1) k) ?_
          show Goes p e below s _ _ _ T39 (mkF m 277 #[.val (.int p1), .val (.int p2), .val (.int p3), .val (.int p4), .val (.int p5), .val (.int (Int32.ofNat n)), .val (.int (0 : Int32)), .val (.int (1 : Int32)), .val (.int (0 : Int32)), .val (.ref b28), .val (.ref b30), .val (.int (2 : Int32)), .val (.ref r34)] [])
          refine Goes.step (fun _ k => XS.aload X39.here hx rfl (hb hby at_277) rfl rfl k) ?_
          show Goes p e below s _ _ _ T39 (mkF m 279 #[.val (.int p1), .val (.int p2), .val (.int p3), .val (.int p4), .val (.int p5), .val (.int (Int32.ofNat n)), .val (.int (0 : Int32)), .val (.int (1 : Int32)), .val (.int (0 : Int32)), .val (.ref b28), .val (.ref b30), .val (.int (2 : Int32)), .val (.ref r34)] [(.ref r34)])
          refine Goes.step (fun _ k => XS.aload X39.here hx rfl (hb hby at_279) rfl rfl k) ?_
          show Goes p e below s _ _ _ T39 (mkF m 281 #[.val (.int p1), .val (.int p2), .val (.int p3), .val (.int p4), .val (.int p5), .val (.int (Int32.ofNat n)), .val (.int (0 : Int32)), .val (.int (1 : Int32)), .val (.int (0 : Int32)), .val (.ref b28), .val (.ref b30), .val (.int (2 : Int32)), .val (.ref r34)] [(.ref b30), (.ref r34)])
          refine Goes.step (fun _ k => XS.iload X39.here hx rfl (hb hby at_281) rfl k) ?_
          show Goes p e below s _ _ _ T39 (mkF m 283 #[.val (.int p1), .val (.int p2), .val (.int p3), .val (.int p4), .val (.int p5), .val (.int (Int32.ofNat n)), .val (.int (0 : Int32)), .val (.int (1 : Int32)), .val (.int (0 : Int32)), .val (.ref b28), .val (.ref b30), .val (.int (2 : Int32)), .val (.ref r34)] [(.int (2 : Int32)), (.ref b30), (.ref r34)])
          refine Goes.step (fun _ k => XS.iconst X39.here hx rfl (hb hby at_283) k) ?_
          show Goes p e below s _ _ _ T39 (mkF m 284 #[.val (.int p1), .val (.int p2), .val (.int p3), .val (.int p4), .val (.int p5), .val (.int (Int32.ofNat n)), .val (.int (0 : Int32)), .val (.int (1 : Int32)), .val (.int (0 : Int32)), .val (.ref b28), .val (.ref b30), .val (.int (2 : Int32)), .val (.ref r34)] [(.int (5 : Int32)), (.int (2 : Int32)), (.ref b30), (.ref r34)])
          obtain ⟨T40, X40, e40, st40⟩ := callPure X39 hx hZ (y := (⟨"com/example/proxysmith/proxysmith/BytesToByteArrayPinLaw", "same", "([B[BII)Z"⟩ : MethodName)) hown (hw _ (List.mem_of_getElem? (i := 48) rfl)) (hw _ (List.mem_of_getElem? (i := 49) rfl)) (hw _ (List.mem_of_getElem? (i := 50) rfl)) (hw _ (List.mem_of_getElem? (i := 51) rfl)) (by decide) (W := 0) (argsL := [(.ref r34), (.ref b30), (.int (2 : Int32)), (.int (5 : Int32))]) (rest := []) (r := (.int (1 : Int32))) (fun _ _ _ q => q) (rm10a l Z a0 hw [] r34 b30 (2 : Int32) (5 : Int32) h34 n0 z_34 (by decide)) (by decide) (by decide) (by decide) (by decide) e39 (g := (mkF m 284 #[.val (.int p1), .val (.int p2), .val (.int p3), .val (.int p4), .val (.int p5), .val (.int (Int32.ofNat n)), .val (.int (0 : Int32)), .val (.int (1 : Int32)), .val (.int (0 : Int32)), .val (.ref b28), .val (.ref b30), .val (.int (2 : Int32)), .val (.ref r34)] [(.int (5 : Int32)), (.int (2 : Int32)), (.ref b30), (.ref r34)])) rfl (by rw [hml]; rfl) (lenOf pd_0_2 rfl) rfl (by show 2 * 0 + _ ≤ _; exact Nat.le_of_eq rfl) (hb hby at_284)
          refine Goes.step st40 ?_
          show Goes p e below s _ _ _ T40 (mkF m 287 #[.val (.int p1), .val (.int p2), .val (.int p3), .val (.int p4), .val (.int p5), .val (.int (Int32.ofNat n)), .val (.int (0 : Int32)), .val (.int (1 : Int32)), .val (.int (0 : Int32)), .val (.ref b28), .val (.ref b30), .val (.int (2 : Int32)), .val (.ref r34)] [(.int (1 : Int32))])
          refine Goes.step (fun _ k => XS.ifNo X40.here hx rfl (hb hby at_287) rfl ((if0 _ _).trans (feq (by decide : ¬ ((1 : Int32) = (0 : Int32)))).1) k) ?_
          show Goes p e below s _ _ _ T40 (mkF m 290 #[.val (.int p1), .val (.int p2), .val (.int p3), .val (.int p4), .val (.int p5), .val (.int (Int32.ofNat n)), .val (.int (0 : Int32)), .val (.int (1 : Int32)), .val (.int (0 : Int32)), .val (.ref b28), .val (.ref b30), .val (.int (2 : Int32)), .val (.ref r34)] [])
          refine Goes.step (fun _ k => XS.aload X40.here hx rfl (hb hby at_290) rfl rfl k) ?_
          show Goes p e below s _ _ _ T40 (mkF m 292 #[.val (.int p1), .val (.int p2), .val (.int p3), .val (.int p4), .val (.int p5), .val (.int (Int32.ofNat n)), .val (.int (0 : Int32)), .val (.int (1 : Int32)), .val (.int (0 : Int32)), .val (.ref b28), .val (.ref b30), .val (.int (2 : Int32)), .val (.ref r34)] [(.ref r34)])
          refine Goes.step (fun _ k => XS.aload X40.here hx rfl (hb hby at_292) rfl rfl k) ?_
          show Goes p e below s _ _ _ T40 (mkF m 294 #[.val (.int p1), .val (.int p2), .val (.int p3), .val (.int p4), .val (.int p5), .val (.int (Int32.ofNat n)), .val (.int (0 : Int32)), .val (.int (1 : Int32)), .val (.int (0 : Int32)), .val (.ref b28), .val (.ref b30), .val (.int (2 : Int32)), .val (.ref r34)] [(.ref b30), (.ref r34)])
          refine Goes.step (fun _ k => XS.iload X40.here hx rfl (hb hby at_294) rfl k) ?_
          show Goes p e below s _ _ _ T40 (mkF m 296 #[.val (.int p1), .val (.int p2), .val (.int p3), .val (.int p4), .val (.int p5), .val (.int (Int32.ofNat n)), .val (.int (0 : Int32)), .val (.int (1 : Int32)), .val (.int (0 : Int32)), .val (.ref b28), .val (.ref b30), .val (.int (2 : Int32)), .val (.ref r34)] [(.int (2 : Int32)), (.ref b30), (.ref r34)])
          refine Goes.step (fun _ k => XS.bipush X40.here hx rfl (hb hby at_296) k) ?_
          show Goes p e below s _ _ _ T40 (mkF m 298 #[.val (.int p1), .val (.int p2), .val (.int p3), .val (.int p4), .val (.int p5), .val (.int (Int32.ofNat n)), .val (.int (0 : Int32)), .val (.int (1 : Int32)), .val (.int (0 : Int32)), .val (.ref b28), .val (.ref b30), .val (.int (2 : Int32)), .val (.ref r34)] [(.int (6 : Int32)), (.int (2 : Int32)), (.ref b30), (.ref r34)])
          obtain ⟨T41, X41, e41, st41⟩ := callPure X40 hx hZ (y := (⟨"com/example/proxysmith/proxysmith/BytesToByteArrayPinLaw", "same", "([B[BII)Z"⟩ : MethodName)) hown (hw _ (List.mem_of_getElem? (i := 48) rfl)) (hw _ (List.mem_of_getElem? (i := 49) rfl)) (hw _ (List.mem_of_getElem? (i := 50) rfl)) (hw _ (List.mem_of_getElem? (i := 51) rfl)) (by decide) (W := 0) (argsL := [(.ref r34), (.ref b30), (.int (2 : Int32)), (.int (6 : Int32))]) (rest := []) (r := (.int (1 : Int32))) (fun _ _ _ q => q) (rm10a l Z a0 hw [] r34 b30 (2 : Int32) (6 : Int32) h34 n0 z_34 (by decide)) (by decide) (by decide) (by decide) (by decide) e40 (g := (mkF m 298 #[.val (.int p1), .val (.int p2), .val (.int p3), .val (.int p4), .val (.int p5), .val (.int (Int32.ofNat n)), .val (.int (0 : Int32)), .val (.int (1 : Int32)), .val (.int (0 : Int32)), .val (.ref b28), .val (.ref b30), .val (.int (2 : Int32)), .val (.ref r34)] [(.int (6 : Int32)), (.int (2 : Int32)), (.ref b30), (.ref r34)])) rfl (by rw [hml]; rfl) (lenOf pd_0_2 rfl) rfl (by show 2 * 0 + _ ≤ _; exact Nat.le_of_eq rfl) (hb hby at_298)
          refine Goes.step st41 ?_
          show Goes p e below s _ _ _ T41 (mkF m 301 #[.val (.int p1), .val (.int p2), .val (.int p3), .val (.int p4), .val (.int p5), .val (.int (Int32.ofNat n)), .val (.int (0 : Int32)), .val (.int (1 : Int32)), .val (.int (0 : Int32)), .val (.ref b28), .val (.ref b30), .val (.int (2 : Int32)), .val (.ref r34)] [(.int (1 : Int32))])
          as_aux_lemma =>
            refine Goes.step (fun _ k => XS.ifNo X41.here hx rfl (hb hby at_301) rfl ((if0 _ _).trans (feq (by decide : ¬ ((1 : Int32) = (0 : Int32)))).1) k) ?_
            show Goes p e below s _ _ _ T41 (mkF m 304 #[.val (.int p1), .val (.int p2), .val (.int p3), .val (.int p4), .val (.int p5), .val (.int (Int32.ofNat n)), .val (.int (0 : Int32)), .val (.int (1 : Int32)), .val (.int (0 : Int32)), .val (.ref b28), .val (.ref b30), .val (.int (2 : Int32)), .val (.ref r34)] [])
            refine Goes.step (fun _ k => XS.iconst X41.here hx rfl (hb hby at_304) k) ?_
            show Goes p e below s _ _ _ T41 (mkF m 305 #[.val (.int p1), .val (.int p2), .val (.int p3), .val (.int p4), .val (.int p5), .val (.int (Int32.ofNat n)), .val (.int (0 : Int32)), .val (.int (1 : Int32)), .val (.int (0 : Int32)), .val (.ref b28), .val (.ref b30), .val (.int (2 : Int32)), .val (.ref r34)] [(.int (1 : Int32))])
            refine Goes.step (fun _ k => XS.goto X41.here hx rfl (pc0 := 305) (pc' := 309) rfl (hb hby at_305) (by decide) (by decide) k) ?_
            show Goes p e below s _ _ _ T41 (mkF m 309 #[.val (.int p1), .val (.int p2), .val (.int p3), .val (.int p4), .val (.int p5), .val (.int (Int32.ofNat n)), .val (.int (0 : Int32)), .val (.int (1 : Int32)), .val (.int (0 : Int32)), .val (.ref b28), .val (.ref b30), .val (.int (2 : Int32)), .val (.ref r34)] [(.int (1 : Int32))])
            exact Goes.outN X41 hx hlk (t := .boolean) Bd.returns (by simp) (hb hby at_309) ⟨rfl, N_34⟩ (by decide) (by decide)
      · refine Goes.step (fun _ k => XS.ifNo X0.here hx rfl (hb hby at_35) rfl ((if0 _ _).trans (feq hc35).1) k) ?_
        show Goes p e below s _ _ _ s₁ (mkF m 38 #[.val (.int p1), .val (.int p2), .val (.int p3), .val (.int p4), .val (.int p5), .val (.int (Int32.ofNat n)), .val (.int (0 : Int32)), .val (.int (1 : Int32)), .unset, .unset, .unset, .unset, .unset] [])
        refine Goes.step (fun _ k => XS.iconst X0.here hx rfl (hb hby at_38) k) ?_
        show Goes p e below s _ _ _ s₁ (mkF m 39 #[.val (.int p1), .val (.int p2), .val (.int p3), .val (.int p4), .val (.int p5), .val (.int (Int32.ofNat n)), .val (.int (0 : Int32)), .val (.int (1 : Int32)), .unset, .unset, .unset, .unset, .unset] [(.int (1 : Int32))])
        refine Goes.step (fun _ k => XS.goto X0.here hx rfl (pc0 := 39) (pc' := 43) rfl (hb hby at_39) (by decide) (by decide) k) ?_
        show Goes p e below s _ _ _ s₁ (mkF m 43 #[.val (.int p1), .val (.int p2), .val (.int p3), .val (.int p4), .val (.int p5), .val (.int (Int32.ofNat n)), .val (.int (0 : Int32)), .val (.int (1 : Int32)), .unset, .unset, .unset, .unset, .unset] [(.int (1 : Int32))])
        refine Goes.step (fun _ k => XS.istore X0.here hx rfl (hb hby at_43) rfl (l' := #[.val (.int p1), .val (.int p2), .val (.int p3), .val (.int p4), .val (.int p5), .val (.int (Int32.ofNat n)), .val (.int (0 : Int32)), .val (.int (1 : Int32)), .val (.int (1 : Int32)), .unset, .unset, .unset, .unset]) rfl k) ?_
        show Goes p e below s _ _ _ s₁ (mkF m 45 #[.val (.int p1), .val (.int p2), .val (.int p3), .val (.int p4), .val (.int p5), .val (.int (Int32.ofNat n)), .val (.int (0 : Int32)), .val (.int (1 : Int32)), .val (.int (1 : Int32)), .unset, .unset, .unset, .unset] [])
        obtain ⟨T42, h42, X42, e42, E42, A42, D42, -, st42⟩ := newO X0 hx hZ hown (hw _ (List.mem_of_getElem? (i := 0) rfl)) (hw _ (List.mem_of_getElem? (i := 1) rfl)) (hw _ (List.mem_of_getElem? (i := 2) rfl)) e0 (g := (mkF m 45 #[.val (.int p1), .val (.int p2), .val (.int p3), .val (.int p4), .val (.int p5), .val (.int (Int32.ofNat n)), .val (.int (0 : Int32)), .val (.int (1 : Int32)), .val (.int (1 : Int32)), .unset, .unset, .unset, .unset] [])) rfl (hb hby at_45) (by decide) (by decide)
        obtain ⟨b42, g_42⟩ : ∃ z, z = h0.size := ⟨_, rfl⟩
        rw [← g_42] at A42 D42 st42
        refine Goes.step st42 ?_
        have ge_b42 : n0 ≤ b42 := by rw [g_42]; exact Z0
        have sz_b42 : h0.size ≤ b42 := by rw [g_42]; exact K0.1
        have z_42 : n0 ≤ h42.size := Nat.le_trans Z0 E42.1
        have K_42 : Keep h0 h42 [] := K0.ext E42
        have E_b42_42 : Exa Z h42 b42 "com/example/proxysmith/proxysmith/ClassFileWriter$Bytes" := A42
        have F_b42_bytes_42 : Fld Z h42 b42 "com/example/proxysmith/proxysmith/ClassFileWriter$Bytes" "bytes" "[B" .null := D42 (Or.inl (hw _ (List.mem_of_getElem? (i := 11) rfl))) (ty := (.array .byte)) (by decide)
        have F_b42_size_42 : Fld Z h42 b42 "com/example/proxysmith/proxysmith/ClassFileWriter$Bytes" "size" "I" (.int (0 : Int32)) := D42 (Or.inl (hw _ (List.mem_of_getElem? (i := 22) rfl))) (ty := .int) (by decide)
        show Goes p e below s _ _ _ T42 (mkF m 48 #[.val (.int p1), .val (.int p2), .val (.int p3), .val (.int p4), .val (.int p5), .val (.int (Int32.ofNat n)), .val (.int (0 : Int32)), .val (.int (1 : Int32)), .val (.int (1 : Int32)), .unset, .unset, .unset, .unset] [(.ref b42)])
        refine Goes.step (fun _ k => XS.dup X42.here hx rfl (hb hby at_48) rfl rfl k) ?_
        show Goes p e below s _ _ _ T42 (mkF m 49 #[.val (.int p1), .val (.int p2), .val (.int p3), .val (.int p4), .val (.int p5), .val (.int (Int32.ofNat n)), .val (.int (0 : Int32)), .val (.int (1 : Int32)), .val (.int (1 : Int32)), .unset, .unset, .unset, .unset] [(.ref b42), (.ref b42)])
        refine Goes.step (fun _ k => XS.iload X42.here hx rfl (hb hby at_49) rfl k) ?_
        show Goes p e below s _ _ _ T42 (mkF m 51 #[.val (.int p1), .val (.int p2), .val (.int p3), .val (.int p4), .val (.int p5), .val (.int (Int32.ofNat n)), .val (.int (0 : Int32)), .val (.int (1 : Int32)), .val (.int (1 : Int32)), .unset, .unset, .unset, .unset] [(.int (Int32.ofNat n)), (.ref b42), (.ref b42)])
        obtain ⟨v43, T43, h43, L43, X43, e43, Q43, st43⟩ := callXI X42 hx hZ (b := b42) (y := (⟨"com/example/proxysmith/proxysmith/ClassFileWriter$Bytes", "<init>", "(I)V"⟩ : MethodName)) hown rfl (hw _ (List.mem_of_getElem? (i := 3) rfl)) (hw _ (List.mem_of_getElem? (i := 4) rfl)) (hw _ (List.mem_of_getElem? (i := 5) rfl)) (hw _ (List.mem_of_getElem? (i := 2) rfl)) (by decide) (W := 1) (argsL := [(.int (Int32.ofNat n))]) (rest := [(.ref b42)]) (rm1 l Z a0 hw [] b42 n h42 n0 z_42 E_b42_42 F_b42_bytes_42 F_b42_size_42 ge_b42 hn) (by decide) (by decide) (by decide) (by decide) e42 (g := (mkF m 51 #[.val (.int p1), .val (.int p2), .val (.int p3), .val (.int p4), .val (.int p5), .val (.int (Int32.ofNat n)), .val (.int (0 : Int32)), .val (.int (1 : Int32)), .val (.int (1 : Int32)), .unset, .unset, .unset, .unset] [(.int (Int32.ofNat n)), (.ref b42), (.ref b42)])) rfl (by rw [hml]; rfl) (lenOf pd_0_0 rfl) rfl (by show 2 * 0 + _ ≤ _; exact Nat.le_of_eq rfl) (hb hby at_51)
        obtain ⟨b43, rfl, NQ43, KQ43, hE43, hFb43, hFs43, hA43, hab43, hg43, hb43⟩ := Q43
        refine Goes.step st43 ?_
        have E_b42_43 := E_b42_42.keep KQ43
        have z_43 : n0 ≤ h43.size := Nat.le_trans z_42 KQ43.1
        have K_43 : Keep h0 h43 [] := Keep.trans K_42 KQ43 (allS (Or.inr sz_b42) all0)
        have N_43 := Fr.app N0 NQ43
        show Goes p e below s _ _ _ T43 (mkF m 54 #[.val (.int p1), .val (.int p2), .val (.int p3), .val (.int p4), .val (.int p5), .val (.int (Int32.ofNat n)), .val (.int (0 : Int32)), .val (.int (1 : Int32)), .val (.int (1 : Int32)), .unset, .unset, .unset, .unset] [(.ref b42)])
        refine Goes.step (fun _ k => XS.astore X43.here hx rfl (hb hby at_54) rfl rfl (l' := #[.val (.int p1), .val (.int p2), .val (.int p3), .val (.int p4), .val (.int p5), .val (.int (Int32.ofNat n)), .val (.int (0 : Int32)), .val (.int (1 : Int32)), .val (.int (1 : Int32)), .val (.ref b42), .unset, .unset, .unset]) rfl k) ?_
        show Goes p e below s _ _ _ T43 (mkF m 56 #[.val (.int p1), .val (.int p2), .val (.int p3), .val (.int p4), .val (.int p5), .val (.int (Int32.ofNat n)), .val (.int (0 : Int32)), .val (.int (1 : Int32)), .val (.int (1 : Int32)), .val (.ref b42), .unset, .unset, .unset] [])
        refine Goes.step (fun _ k => XS.bipush X43.here hx rfl (hb hby at_56) k) ?_
        show Goes p e below s _ _ _ T43 (mkF m 58 #[.val (.int p1), .val (.int p2), .val (.int p3), .val (.int p4), .val (.int p5), .val (.int (Int32.ofNat n)), .val (.int (0 : Int32)), .val (.int (1 : Int32)), .val (.int (1 : Int32)), .val (.ref b42), .unset, .unset, .unset] [(.int (7 : Int32))])
        obtain ⟨T44, h44, X44, e44, E44, A44, st44⟩ := newI X43 hx hZ (hw _ (List.mem_of_getElem? (i := 9) rfl)) e43 (g := (mkF m 58 #[.val (.int p1), .val (.int p2), .val (.int p3), .val (.int p4), .val (.int p5), .val (.int (Int32.ofNat n)), .val (.int (0 : Int32)), .val (.int (1 : Int32)), .val (.int (1 : Int32)), .val (.ref b42), .unset, .unset, .unset] [(.int (7 : Int32))])) rfl (hb hby at_58) rfl (N := 7) rfl (cap := 7) (by decide) (by decide) (by decide) (by decide) rfl (by decide)
        obtain ⟨b44, g_44⟩ : ∃ z, z = h43.size := ⟨_, rfl⟩
        rw [← g_44] at A44 st44
        refine Goes.step st44 ?_
        have ne_b42_b44 : b42 ≠ b44 := Nat.ne_of_lt (by rw [g_44]; exact hE43.lt)
        have ne_b43_b44 : b43 ≠ b44 := Nat.ne_of_lt (by rw [g_44]; exact hA43.lt)
        have ge_b44 : n0 ≤ b44 := by rw [g_44]; exact z_43
        have sz_b44 : h0.size ≤ b44 := by rw [g_44]; exact K_43.1
        have hE43_44 := hE43.ext E44
        have hFb43_44 := hFb43.ext E44
        have hFs43_44 := hFs43.ext E44
        have hA43_44 := hA43.ext E44
        have z_44 : n0 ≤ h44.size := Nat.le_trans z_43 E44.1
        have K_44 : Keep h0 h44 [] := K_43.ext E44
        have A_b44_44 : Ari Z h44 b44 .byte (7) (fun _ => 0) := A44
        show Goes p e below s _ _ _ T44 (mkF m 60 #[.val (.int p1), .val (.int p2), .val (.int p3), .val (.int p4), .val (.int p5), .val (.int (Int32.ofNat n)), .val (.int (0 : Int32)), .val (.int (1 : Int32)), .val (.int (1 : Int32)), .val (.ref b42), .unset, .unset, .unset] [(.ref b44)])
        refine Goes.step (fun _ k => XS.astore X44.here hx rfl (hb hby at_60) rfl rfl (l' := #[.val (.int p1), .val (.int p2), .val (.int p3), .val (.int p4), .val (.int p5), .val (.int (Int32.ofNat n)), .val (.int (0 : Int32)), .val (.int (1 : Int32)), .val (.int (1 : Int32)), .val (.ref b42), .val (.ref b44), .unset, .unset]) rfl k) ?_
        show Goes p e below s _ _ _ T44 (mkF m 62 #[.val (.int p1), .val (.int p2), .val (.int p3), .val (.int p4), .val (.int p5), .val (.int (Int32.ofNat n)), .val (.int (0 : Int32)), .val (.int (1 : Int32)), .val (.int (1 : Int32)), .val (.ref b42), .val (.ref b44), .unset, .unset] [])
        refine Goes.step (fun _ k => XS.iconst X44.here hx rfl (hb hby at_62) k) ?_
        show Goes p e below s _ _ _ T44 (mkF m 63 #[.val (.int p1), .val (.int p2), .val (.int p3), .val (.int p4), .val (.int p5), .val (.int (Int32.ofNat n)), .val (.int (0 : Int32)), .val (.int (1 : Int32)), .val (.int (1 : Int32)), .val (.ref b42), .val (.ref b44), .unset, .unset] [(.int (0 : Int32))])
        refine Goes.step (fun _ k => XS.istore X44.here hx rfl (hb hby at_63) rfl (l' := #[.val (.int p1), .val (.int p2), .val (.int p3), .val (.int p4), .val (.int p5), .val (.int (Int32.ofNat n)), .val (.int (0 : Int32)), .val (.int (1 : Int32)), .val (.int (1 : Int32)), .val (.ref b42), .val (.ref b44), .val (.int (0 : Int32)), .unset]) rfl k) ?_
        show Goes p e below s _ _ _ T44 (mkF m 65 #[.val (.int p1), .val (.int p2), .val (.int p3), .val (.int p4), .val (.int p5), .val (.int (Int32.ofNat n)), .val (.int (0 : Int32)), .val (.int (1 : Int32)), .val (.int (1 : Int32)), .val (.ref b42), .val (.ref b44), .val (.int (0 : Int32)), .unset] [])
        refine Goes.step (fun _ k => XS.iload X44.here hx rfl (hb hby at_65) rfl k) ?_
        show Goes p e below s _ _ _ T44 (mkF m 67 #[.val (.int p1), .val (.int p2), .val (.int p3), .val (.int p4), .val (.int p5), .val (.int (Int32.ofNat n)), .val (.int (0 : Int32)), .val (.int (1 : Int32)), .val (.int (1 : Int32)), .val (.ref b42), .val (.ref b44), .val (.int (0 : Int32)), .unset] [(.int (0 : Int32))])
        refine Goes.step (fun _ k => XS.ifYes X44.here hx rfl (pc0 := 67) (pc' := 89) rfl (hb hby at_67) rfl ((if0 _ _).trans (teq (by decide : (0 : Int32) = (0 : Int32))).1) (by decide) (by decide) k) ?_
        show Goes p e below s _ _ _ T44 (mkF m 89 #[.val (.int p1), .val (.int p2), .val (.int p3), .val (.int p4), .val (.int p5), .val (.int (Int32.ofNat n)), .val (.int (0 : Int32)), .val (.int (1 : Int32)), .val (.int (1 : Int32)), .val (.ref b42), .val (.ref b44), .val (.int (0 : Int32)), .unset] [])
        refine Goes.step (fun _ k => XS.iload X44.here hx rfl (hb hby at_89) rfl k) ?_
        show Goes p e below s _ _ _ T44 (mkF m 91 #[.val (.int p1), .val (.int p2), .val (.int p3), .val (.int p4), .val (.int p5), .val (.int (Int32.ofNat n)), .val (.int (0 : Int32)), .val (.int (1 : Int32)), .val (.int (1 : Int32)), .val (.ref b42), .val (.ref b44), .val (.int (0 : Int32)), .unset] [(.int (1 : Int32))])
        refine Goes.step (fun _ k => XS.ifNo X44.here hx rfl (hb hby at_91) rfl ((if0 _ _).trans (feq (by decide : ¬ ((1 : Int32) = (0 : Int32)))).1) k) ?_
        show Goes p e below s _ _ _ T44 (mkF m 94 #[.val (.int p1), .val (.int p2), .val (.int p3), .val (.int p4), .val (.int p5), .val (.int (Int32.ofNat n)), .val (.int (0 : Int32)), .val (.int (1 : Int32)), .val (.int (1 : Int32)), .val (.ref b42), .val (.ref b44), .val (.int (0 : Int32)), .unset] [])
        refine Goes.step (fun _ k => XS.aload X44.here hx rfl (hb hby at_94) rfl rfl k) ?_
        show Goes p e below s _ _ _ T44 (mkF m 96 #[.val (.int p1), .val (.int p2), .val (.int p3), .val (.int p4), .val (.int p5), .val (.int (Int32.ofNat n)), .val (.int (0 : Int32)), .val (.int (1 : Int32)), .val (.int (1 : Int32)), .val (.ref b42), .val (.ref b44), .val (.int (0 : Int32)), .unset] [(.ref b44)])
        refine Goes.step (fun _ k => XS.iload X44.here hx rfl (hb hby at_96) rfl k) ?_
        show Goes p e below s _ _ _ T44 (mkF m 98 #[.val (.int p1), .val (.int p2), .val (.int p3), .val (.int p4), .val (.int p5), .val (.int (Int32.ofNat n)), .val (.int (0 : Int32)), .val (.int (1 : Int32)), .val (.int (1 : Int32)), .val (.ref b42), .val (.ref b44), .val (.int (0 : Int32)), .unset] [(.int (0 : Int32)), (.ref b44)])
        refine Goes.step (fun _ k => XS.iloadN X44.here hx rfl (hb hby at_98) rfl k) ?_
        show Goes p e below s _ _ _ T44 (mkF m 99 #[.val (.int p1), .val (.int p2), .val (.int p3), .val (.int p4), .val (.int p5), .val (.int (Int32.ofNat n)), .val (.int (0 : Int32)), .val (.int (1 : Int32)), .val (.int (1 : Int32)), .val (.ref b42), .val (.ref b44), .val (.int (0 : Int32)), .unset] [(.int p4), (.int (0 : Int32)), (.ref b44)])
        refine Goes.step (fun _ k => XS.bipush X44.here hx rfl (hb hby at_99) k) ?_
        show Goes p e below s _ _ _ T44 (mkF m 101 #[.val (.int p1), .val (.int p2), .val (.int p3), .val (.int p4), .val (.int p5), .val (.int (Int32.ofNat n)), .val (.int (0 : Int32)), .val (.int (1 : Int32)), .val (.int (1 : Int32)), .val (.ref b42), .val (.ref b44), .val (.int (0 : Int32)), .unset] [(.int (8 : Int32)), (.int p4), (.int (0 : Int32)), (.ref b44)])
        refine Goes.step (fun _ k => XS.iushr X44.here hx rfl (hb hby at_101) rfl k) ?_
        show Goes p e below s _ _ _ T44 (mkF m 102 #[.val (.int p1), .val (.int p2), .val (.int p3), .val (.int p4), .val (.int p5), .val (.int (Int32.ofNat n)), .val (.int (0 : Int32)), .val (.int (1 : Int32)), .val (.int (1 : Int32)), .val (.ref b42), .val (.ref b44), .val (.int (0 : Int32)), .unset] [(.int ((p4.toUInt32 >>> ((8 : Int32) &&& 31).toUInt32).toInt32)), (.int (0 : Int32)), (.ref b44)])
        refine Goes.step (fun _ k => XS.i2b X44.here hx rfl (hb hby at_102) rfl k) ?_
        show Goes p e below s _ _ _ T44 (mkF m 103 #[.val (.int p1), .val (.int p2), .val (.int p3), .val (.int p4), .val (.int p5), .val (.int (Int32.ofNat n)), .val (.int (0 : Int32)), .val (.int (1 : Int32)), .val (.int (1 : Int32)), .val (.ref b42), .val (.ref b44), .val (.int (0 : Int32)), .unset] [(.int (((p4.toUInt32 >>> ((8 : Int32) &&& 31).toUInt32).toInt32).toInt8.toInt32)), (.int (0 : Int32)), (.ref b44)])
        obtain ⟨T45, h45, X45, e45, W45, A45, st45⟩ := stoB X44 hx hZ e44 A_b44_44 (0) rfl (by decide) (g := (mkF m 103 #[.val (.int p1), .val (.int p2), .val (.int p3), .val (.int p4), .val (.int p5), .val (.int (Int32.ofNat n)), .val (.int (0 : Int32)), .val (.int (1 : Int32)), .val (.int (1 : Int32)), .val (.ref b42), .val (.ref b44), .val (.int (0 : Int32)), .unset] [(.int (((p4.toUInt32 >>> ((8 : Int32) &&& 31).toUInt32).toInt32).toInt8.toInt32)), (.int (0 : Int32)), (.ref b44)])) rfl rfl (hb hby at_103)
        refine Goes.step st45 ?_
        have hE43_45 := hE43_44.wr W45
        have hFb43_45 := hFb43_44.other W45 (Or.inl ne_b42_b44)
        have hFs43_45 := hFs43_44.other W45 (Or.inl ne_b42_b44)
        have hA43_45 := hA43_44.other W45 ne_b43_b44
        have z_45 : n0 ≤ h45.size := by rw [W45.size]; exact z_44
        have K_45 : Keep h0 h45 [] := K_44.wr W45 (Or.inr sz_b44)
        have N_45 := Fr.snoc X45 N_43 ge_b44
        have A_b44_45 : Ari Z h45 b44 .byte (7) (updI (fun _ => 0) (0) ((((p4.toUInt32 >>> ((8 : Int32) &&& 31).toUInt32).toInt32).toInt8.toInt32).toInt8.toInt32)) := A45
        show Goes p e below s _ _ _ T45 (mkF m 104 #[.val (.int p1), .val (.int p2), .val (.int p3), .val (.int p4), .val (.int p5), .val (.int (Int32.ofNat n)), .val (.int (0 : Int32)), .val (.int (1 : Int32)), .val (.int (1 : Int32)), .val (.ref b42), .val (.ref b44), .val (.int (0 : Int32)), .unset] [])
        refine Goes.step (fun _ k => XS.aload X45.here hx rfl (hb hby at_104) rfl rfl k) ?_
        show Goes p e below s _ _ _ T45 (mkF m 106 #[.val (.int p1), .val (.int p2), .val (.int p3), .val (.int p4), .val (.int p5), .val (.int (Int32.ofNat n)), .val (.int (0 : Int32)), .val (.int (1 : Int32)), .val (.int (1 : Int32)), .val (.ref b42), .val (.ref b44), .val (.int (0 : Int32)), .unset] [(.ref b44)])
        refine Goes.step (fun _ k => XS.iload X45.here hx rfl (hb hby at_106) rfl k) ?_
        show Goes p e below s _ _ _ T45 (mkF m 108 #[.val (.int p1), .val (.int p2), .val (.int p3), .val (.int p4), .val (.int p5), .val (.int (Int32.ofNat n)), .val (.int (0 : Int32)), .val (.int (1 : Int32)), .val (.int (1 : Int32)), .val (.ref b42), .val (.ref b44), .val (.int (0 : Int32)), .unset] [(.int (0 : Int32)), (.ref b44)])
        refine Goes.step (fun _ k => XS.iconst X45.here hx rfl (hb hby at_108) k) ?_
        show Goes p e below s _ _ _ T45 (mkF m 109 #[.val (.int p1), .val (.int p2), .val (.int p3), .val (.int p4), .val (.int p5), .val (.int (Int32.ofNat n)), .val (.int (0 : Int32)), .val (.int (1 : Int32)), .val (.int (1 : Int32)), .val (.ref b42), .val (.ref b44), .val (.int (0 : Int32)), .unset] [(.int (1 : Int32)), (.int (0 : Int32)), (.ref b44)])
        refine Goes.step (fun _ k => XS.iadd X45.here hx rfl (hb hby at_109) rfl k) ?_
        show Goes p e below s _ _ _ T45 (mkF m 110 #[.val (.int p1), .val (.int p2), .val (.int p3), .val (.int p4), .val (.int p5), .val (.int (Int32.ofNat n)), .val (.int (0 : Int32)), .val (.int (1 : Int32)), .val (.int (1 : Int32)), .val (.ref b42), .val (.ref b44), .val (.int (0 : Int32)), .unset] [(.int (1 : Int32)), (.ref b44)])
        refine Goes.step (fun _ k => XS.iloadN X45.here hx rfl (hb hby at_110) rfl k) ?_
        show Goes p e below s _ _ _ T45 (mkF m 111 #[.val (.int p1), .val (.int p2), .val (.int p3), .val (.int p4), .val (.int p5), .val (.int (Int32.ofNat n)), .val (.int (0 : Int32)), .val (.int (1 : Int32)), .val (.int (1 : Int32)), .val (.ref b42), .val (.ref b44), .val (.int (0 : Int32)), .unset] [(.int p4), (.int (1 : Int32)), (.ref b44)])
        refine Goes.step (fun _ k => XS.i2b X45.here hx rfl (hb hby at_111) rfl k) ?_
        show Goes p e below s _ _ _ T45 (mkF m 112 #[.val (.int p1), .val (.int p2), .val (.int p3), .val (.int p4), .val (.int p5), .val (.int (Int32.ofNat n)), .val (.int (0 : Int32)), .val (.int (1 : Int32)), .val (.int (1 : Int32)), .val (.ref b42), .val (.ref b44), .val (.int (0 : Int32)), .unset] [(.int (p4.toInt8.toInt32)), (.int (1 : Int32)), (.ref b44)])
        obtain ⟨T46, h46, X46, e46, W46, A46, st46⟩ := stoB X45 hx hZ e45 A_b44_45 (1) rfl (by decide) (g := (mkF m 112 #[.val (.int p1), .val (.int p2), .val (.int p3), .val (.int p4), .val (.int p5), .val (.int (Int32.ofNat n)), .val (.int (0 : Int32)), .val (.int (1 : Int32)), .val (.int (1 : Int32)), .val (.ref b42), .val (.ref b44), .val (.int (0 : Int32)), .unset] [(.int (p4.toInt8.toInt32)), (.int (1 : Int32)), (.ref b44)])) rfl rfl (hb hby at_112)
        refine Goes.step st46 ?_
        have hE43_46 := hE43_45.wr W46
        have hFb43_46 := hFb43_45.other W46 (Or.inl ne_b42_b44)
        have hFs43_46 := hFs43_45.other W46 (Or.inl ne_b42_b44)
        have hA43_46 := hA43_45.other W46 ne_b43_b44
        have z_46 : n0 ≤ h46.size := by rw [W46.size]; exact z_45
        have K_46 : Keep h0 h46 [] := K_45.wr W46 (Or.inr sz_b44)
        have N_46 := Fr.snoc X46 N_45 ge_b44
        have A_b44_46 : Ari Z h46 b44 .byte (7) (updI (updI (fun _ => 0) (0) ((((p4.toUInt32 >>> ((8 : Int32) &&& 31).toUInt32).toInt32).toInt8.toInt32).toInt8.toInt32)) (1) ((p4.toInt8.toInt32).toInt8.toInt32)) := A46
        show Goes p e below s _ _ _ T46 (mkF m 113 #[.val (.int p1), .val (.int p2), .val (.int p3), .val (.int p4), .val (.int p5), .val (.int (Int32.ofNat n)), .val (.int (0 : Int32)), .val (.int (1 : Int32)), .val (.int (1 : Int32)), .val (.ref b42), .val (.ref b44), .val (.int (0 : Int32)), .unset] [])
        refine Goes.step (fun _ k => XS.iload X46.here hx rfl (hb hby at_113) rfl k) ?_
        show Goes p e below s _ _ _ T46 (mkF m 115 #[.val (.int p1), .val (.int p2), .val (.int p3), .val (.int p4), .val (.int p5), .val (.int (Int32.ofNat n)), .val (.int (0 : Int32)), .val (.int (1 : Int32)), .val (.int (1 : Int32)), .val (.ref b42), .val (.ref b44), .val (.int (0 : Int32)), .unset] [(.int (0 : Int32))])
        refine Goes.step (fun _ k => XS.iconst X46.here hx rfl (hb hby at_115) k) ?_
        show Goes p e below s _ _ _ T46 (mkF m 116 #[.val (.int p1), .val (.int p2), .val (.int p3), .val (.int p4), .val (.int p5), .val (.int (Int32.ofNat n)), .val (.int (0 : Int32)), .val (.int (1 : Int32)), .val (.int (1 : Int32)), .val (.ref b42), .val (.ref b44), .val (.int (0 : Int32)), .unset] [(.int (2 : Int32)), (.int (0 : Int32))])
        refine Goes.step (fun _ k => XS.iadd X46.here hx rfl (hb hby at_116) rfl k) ?_
        show Goes p e below s _ _ _ T46 (mkF m 117 #[.val (.int p1), .val (.int p2), .val (.int p3), .val (.int p4), .val (.int p5), .val (.int (Int32.ofNat n)), .val (.int (0 : Int32)), .val (.int (1 : Int32)), .val (.int (1 : Int32)), .val (.ref b42), .val (.ref b44), .val (.int (0 : Int32)), .unset] [(.int (2 : Int32))])
        refine Goes.step (fun _ k => XS.istore X46.here hx rfl (hb hby at_117) rfl (l' := #[.val (.int p1), .val (.int p2), .val (.int p3), .val (.int p4), .val (.int p5), .val (.int (Int32.ofNat n)), .val (.int (0 : Int32)), .val (.int (1 : Int32)), .val (.int (1 : Int32)), .val (.ref b42), .val (.ref b44), .val (.int (2 : Int32)), .unset]) rfl k) ?_
        show Goes p e below s _ _ _ T46 (mkF m 119 #[.val (.int p1), .val (.int p2), .val (.int p3), .val (.int p4), .val (.int p5), .val (.int (Int32.ofNat n)), .val (.int (0 : Int32)), .val (.int (1 : Int32)), .val (.int (1 : Int32)), .val (.ref b42), .val (.ref b44), .val (.int (2 : Int32)), .unset] [])
        refine Goes.step (fun _ k => XS.aload X46.here hx rfl (hb hby at_119) rfl rfl k) ?_
        show Goes p e below s _ _ _ T46 (mkF m 121 #[.val (.int p1), .val (.int p2), .val (.int p3), .val (.int p4), .val (.int p5), .val (.int (Int32.ofNat n)), .val (.int (0 : Int32)), .val (.int (1 : Int32)), .val (.int (1 : Int32)), .val (.ref b42), .val (.ref b44), .val (.int (2 : Int32)), .unset] [(.ref b42)])
        refine Goes.step (fun _ k => XS.iloadN X46.here hx rfl (hb hby at_121) rfl k) ?_
        show Goes p e below s _ _ _ T46 (mkF m 122 #[.val (.int p1), .val (.int p2), .val (.int p3), .val (.int p4), .val (.int p5), .val (.int (Int32.ofNat n)), .val (.int (0 : Int32)), .val (.int (1 : Int32)), .val (.int (1 : Int32)), .val (.ref b42), .val (.ref b44), .val (.int (2 : Int32)), .unset] [(.int p4), (.ref b42)])
        obtain ⟨v47, T47, h47, L47, X47, e47, Q47, st47⟩ := callXV X46 hx hZ (C := "com/example/proxysmith/proxysmith/ClassFileWriter$Bytes") (b := b42) (y := (⟨"com/example/proxysmith/proxysmith/ClassFileWriter$Bytes", "u2", "(I)V"⟩ : MethodName)) (z := (⟨"com/example/proxysmith/proxysmith/ClassFileWriter$Bytes", "u2", "(I)V"⟩ : MethodName)) hown (hw _ (List.mem_of_getElem? (i := 38) rfl)) (hw _ (List.mem_of_getElem? (i := 39) rfl)) (hw _ (List.mem_of_getElem? (i := 41) rfl)) (hw _ (List.mem_of_getElem? (i := 40) rfl)) (hw _ (List.mem_of_getElem? (i := 42) rfl)) (hw _ (List.mem_of_getElem? (i := 2) rfl)) (notFace_of_selects (args := #[]) (mvT hZ (hw _ (List.mem_of_getElem? (i := 41) rfl)))) (by decide) (W := 0) (argsL := [(.int p4)]) (rest := []) (rm8 l Z a0 hw [] b42 p4 b43 n 0 (fun _ => 0) h46 n0 z_46 hE43_46 hFb43_46 hFs43_46 hA43_46 hab43 ge_b42 hg43 (Nat.zero_le n) (Nat.le_trans hn (by decide)) (by omega)) (by decide) (by decide) (by decide) (by decide) e46 hE43_46 (g := (mkF m 122 #[.val (.int p1), .val (.int p2), .val (.int p3), .val (.int p4), .val (.int p5), .val (.int (Int32.ofNat n)), .val (.int (0 : Int32)), .val (.int (1 : Int32)), .val (.int (1 : Int32)), .val (.ref b42), .val (.ref b44), .val (.int (2 : Int32)), .unset] [(.int p4), (.ref b42)])) rfl (by rw [hml]; rfl) (lenOf pd_0_0 rfl) rfl (by show 2 * 0 + _ ≤ _; exact Nat.le_of_eq rfl) (hb hby at_122)
        obtain ⟨b47, n47, f47, rfl, NQ47, KQ47, hE47, hFb47, hFs47, hA47, hab47, hg47, ho47, hs47, hn47, hf47, hv47, hu47⟩ := Q47
        refine Goes.step st47 ?_
        have hE43_47 := hE43_46.keep KQ47
        have A_b44_47 := A_b44_46.keep KQ47 (ninS (Ne.symm ne_b42_b44) (ninS (Ne.symm ne_b43_b44) nin0))
        have z_47 : n0 ≤ h47.size := Nat.le_trans z_46 KQ47.1
        have K_47 : Keep h0 h47 [] := Keep.trans K_46 KQ47 (allS (Or.inr sz_b42) (allS (Or.inr (Nat.le_trans K_42.1 hb43)) all0))
        have N_47 := Fr.app N_46 NQ47
        have ne_b44_b47 : b44 ≠ b47 := ho47.elim (fun q z => (Ne.symm ne_b43_b44) (z.trans q)) (fun q => Nat.ne_of_lt (Nat.lt_of_lt_of_le A_b44_46.lt q))
        have mem_b47 : b47 ∈ [] ∨ h0.size ≤ b47 := ho47.elim (fun q => q ▸ (Or.inr (Nat.le_trans K_42.1 hb43))) (fun q => Or.inr (Nat.le_trans K_46.1 q))
        show Goes p e below s _ _ _ T47 (mkF m 125 #[.val (.int p1), .val (.int p2), .val (.int p3), .val (.int p4), .val (.int p5), .val (.int (Int32.ofNat n)), .val (.int (0 : Int32)), .val (.int (1 : Int32)), .val (.int (1 : Int32)), .val (.ref b42), .val (.ref b44), .val (.int (2 : Int32)), .unset] [])
        refine Goes.step (fun _ k => XS.iload X47.here hx rfl (hb hby at_125) rfl k) ?_
        show Goes p e below s _ _ _ T47 (mkF m 127 #[.val (.int p1), .val (.int p2), .val (.int p3), .val (.int p4), .val (.int p5), .val (.int (Int32.ofNat n)), .val (.int (0 : Int32)), .val (.int (1 : Int32)), .val (.int (1 : Int32)), .val (.ref b42), .val (.ref b44), .val (.int (2 : Int32)), .unset] [(.int (1 : Int32))])
        refine Goes.step (fun _ k => XS.ifNo X47.here hx rfl (hb hby at_127) rfl ((if0 _ _).trans (feq (by decide : ¬ ((1 : Int32) = (0 : Int32)))).1) k) ?_
        show Goes p e below s _ _ _ T47 (mkF m 130 #[.val (.int p1), .val (.int p2), .val (.int p3), .val (.int p4), .val (.int p5), .val (.int (Int32.ofNat n)), .val (.int (0 : Int32)), .val (.int (1 : Int32)), .val (.int (1 : Int32)), .val (.ref b42), .val (.ref b44), .val (.int (2 : Int32)), .unset] [])
        refine Goes.step (fun _ k => XS.aload X47.here hx rfl (hb hby at_130) rfl rfl k) ?_
        show Goes p e below s _ _ _ T47 (mkF m 132 #[.val (.int p1), .val (.int p2), .val (.int p3), .val (.int p4), .val (.int p5), .val (.int (Int32.ofNat n)), .val (.int (0 : Int32)), .val (.int (1 : Int32)), .val (.int (1 : Int32)), .val (.ref b42), .val (.ref b44), .val (.int (2 : Int32)), .unset] [(.ref b44)])
        refine Goes.step (fun _ k => XS.iload X47.here hx rfl (hb hby at_132) rfl k) ?_
        show Goes p e below s _ _ _ T47 (mkF m 134 #[.val (.int p1), .val (.int p2), .val (.int p3), .val (.int p4), .val (.int p5), .val (.int (Int32.ofNat n)), .val (.int (0 : Int32)), .val (.int (1 : Int32)), .val (.int (1 : Int32)), .val (.ref b42), .val (.ref b44), .val (.int (2 : Int32)), .unset] [(.int (2 : Int32)), (.ref b44)])
        refine Goes.step (fun _ k => XS.iload X47.here hx rfl (hb hby at_134) rfl k) ?_
        show Goes p e below s _ _ _ T47 (mkF m 136 #[.val (.int p1), .val (.int p2), .val (.int p3), .val (.int p4), .val (.int p5), .val (.int (Int32.ofNat n)), .val (.int (0 : Int32)), .val (.int (1 : Int32)), .val (.int (1 : Int32)), .val (.ref b42), .val (.ref b44), .val (.int (2 : Int32)), .unset] [(.int p5), (.int (2 : Int32)), (.ref b44)])
        refine Goes.step (fun _ k => XS.bipush X47.here hx rfl (hb hby at_136) k) ?_
        show Goes p e below s _ _ _ T47 (mkF m 138 #[.val (.int p1), .val (.int p2), .val (.int p3), .val (.int p4), .val (.int p5), .val (.int (Int32.ofNat n)), .val (.int (0 : Int32)), .val (.int (1 : Int32)), .val (.int (1 : Int32)), .val (.ref b42), .val (.ref b44), .val (.int (2 : Int32)), .unset] [(.int (24 : Int32)), (.int p5), (.int (2 : Int32)), (.ref b44)])
        as_aux_lemma =>
          refine Goes.step (fun _ k => XS.iushr X47.here hx rfl (hb hby at_138) rfl k) ?_
          show Goes p e below s _ _ _ T47 (mkF m 139 #[.val (.int p1), .val (.int p2), .val (.int p3), .val (.int p4), .val (.int p5), .val (.int (Int32.ofNat n)), .val (.int (0 : Int32)), .val (.int (1 : Int32)), .val (.int (1 : Int32)), .val (.ref b42), .val (.ref b44), .val (.int (2 : Int32)), .unset] [(.int ((p5.toUInt32 >>> ((24 : Int32) &&& 31).toUInt32).toInt32)), (.int (2 : Int32)), (.ref b44)])
          refine Goes.step (fun _ k => XS.i2b X47.here hx rfl (hb hby at_139) rfl k) ?_
          show Goes p e below s _ _ _ T47 (mkF m 140 #[.val (.int p1), .val (.int p2), .val (.int p3), .val (.int p4), .val (.int p5), .val (.int (Int32.ofNat n)), .val (.int (0 : Int32)), .val (.int (1 : Int32)), .val (.int (1 : Int32)), .val (.ref b42), .val (.ref b44), .val (.int (2 : Int32)), .unset] [(.int (((p5.toUInt32 >>> ((24 : Int32) &&& 31).toUInt32).toInt32).toInt8.toInt32)), (.int (2 : Int32)), (.ref b44)])
          obtain ⟨T48, h48, X48, e48, W48, A48, st48⟩ := stoB X47 hx hZ e47 A_b44_47 (2) rfl (by decide) (g := (mkF m 140 #[.val (.int p1), .val (.int p2), .val (.int p3), .val (.int p4), .val (.int p5), .val (.int (Int32.ofNat n)), .val (.int (0 : Int32)), .val (.int (1 : Int32)), .val (.int (1 : Int32)), .val (.ref b42), .val (.ref b44), .val (.int (2 : Int32)), .unset] [(.int (((p5.toUInt32 >>> ((24 : Int32) &&& 31).toUInt32).toInt32).toInt8.toInt32)), (.int (2 : Int32)), (.ref b44)])) rfl rfl (hb hby at_140)
          refine Goes.step st48 ?_
          have hE47_48 := hE47.wr W48
          have hFb47_48 := hFb47.other W48 (Or.inl ne_b42_b44)
          have hFs47_48 := hFs47.other W48 (Or.inl ne_b42_b44)
          have hA47_48 := hA47.other W48 (Ne.symm ne_b44_b47)
          have z_48 : n0 ≤ h48.size := by rw [W48.size]; exact z_47
          have K_48 : Keep h0 h48 [] := K_47.wr W48 (Or.inr sz_b44)
          have N_48 := Fr.snoc X48 N_47 ge_b44
          have A_b44_48 : Ari Z h48 b44 .byte (7) (updI (updI (updI (fun _ => 0) (0) ((((p4.toUInt32 >>> ((8 : Int32) &&& 31).toUInt32).toInt32).toInt8.toInt32).toInt8.toInt32)) (1) ((p4.toInt8.toInt32).toInt8.toInt32)) (2) ((((p5.toUInt32 >>> ((24 : Int32) &&& 31).toUInt32).toInt32).toInt8.toInt32).toInt8.toInt32)) := A48
          show Goes p e below s _ _ _ T48 (mkF m 141 #[.val (.int p1), .val (.int p2), .val (.int p3), .val (.int p4), .val (.int p5), .val (.int (Int32.ofNat n)), .val (.int (0 : Int32)), .val (.int (1 : Int32)), .val (.int (1 : Int32)), .val (.ref b42), .val (.ref b44), .val (.int (2 : Int32)), .unset] [])
          refine Goes.step (fun _ k => XS.aload X48.here hx rfl (hb hby at_141) rfl rfl k) ?_
          show Goes p e below s _ _ _ T48 (mkF m 143 #[.val (.int p1), .val (.int p2), .val (.int p3), .val (.int p4), .val (.int p5), .val (.int (Int32.ofNat n)), .val (.int (0 : Int32)), .val (.int (1 : Int32)), .val (.int (1 : Int32)), .val (.ref b42), .val (.ref b44), .val (.int (2 : Int32)), .unset] [(.ref b44)])
          refine Goes.step (fun _ k => XS.iload X48.here hx rfl (hb hby at_143) rfl k) ?_
          show Goes p e below s _ _ _ T48 (mkF m 145 #[.val (.int p1), .val (.int p2), .val (.int p3), .val (.int p4), .val (.int p5), .val (.int (Int32.ofNat n)), .val (.int (0 : Int32)), .val (.int (1 : Int32)), .val (.int (1 : Int32)), .val (.ref b42), .val (.ref b44), .val (.int (2 : Int32)), .unset] [(.int (2 : Int32)), (.ref b44)])
          refine Goes.step (fun _ k => XS.iconst X48.here hx rfl (hb hby at_145) k) ?_
          show Goes p e below s _ _ _ T48 (mkF m 146 #[.val (.int p1), .val (.int p2), .val (.int p3), .val (.int p4), .val (.int p5), .val (.int (Int32.ofNat n)), .val (.int (0 : Int32)), .val (.int (1 : Int32)), .val (.int (1 : Int32)), .val (.ref b42), .val (.ref b44), .val (.int (2 : Int32)), .unset] [(.int (1 : Int32)), (.int (2 : Int32)), (.ref b44)])
          refine Goes.step (fun _ k => XS.iadd X48.here hx rfl (hb hby at_146) rfl k) ?_
          show Goes p e below s _ _ _ T48 (mkF m 147 #[.val (.int p1), .val (.int p2), .val (.int p3), .val (.int p4), .val (.int p5), .val (.int (Int32.ofNat n)), .val (.int (0 : Int32)), .val (.int (1 : Int32)), .val (.int (1 : Int32)), .val (.ref b42), .val (.ref b44), .val (.int (2 : Int32)), .unset] [(.int (3 : Int32)), (.ref b44)])
          refine Goes.step (fun _ k => XS.iload X48.here hx rfl (hb hby at_147) rfl k) ?_
          show Goes p e below s _ _ _ T48 (mkF m 149 #[.val (.int p1), .val (.int p2), .val (.int p3), .val (.int p4), .val (.int p5), .val (.int (Int32.ofNat n)), .val (.int (0 : Int32)), .val (.int (1 : Int32)), .val (.int (1 : Int32)), .val (.ref b42), .val (.ref b44), .val (.int (2 : Int32)), .unset] [(.int p5), (.int (3 : Int32)), (.ref b44)])
          refine Goes.step (fun _ k => XS.bipush X48.here hx rfl (hb hby at_149) k) ?_
          show Goes p e below s _ _ _ T48 (mkF m 151 #[.val (.int p1), .val (.int p2), .val (.int p3), .val (.int p4), .val (.int p5), .val (.int (Int32.ofNat n)), .val (.int (0 : Int32)), .val (.int (1 : Int32)), .val (.int (1 : Int32)), .val (.ref b42), .val (.ref b44), .val (.int (2 : Int32)), .unset] [(.int (16 : Int32)), (.int p5), (.int (3 : Int32)), (.ref b44)])
          refine Goes.step (fun _ k => XS.iushr X48.here hx rfl (hb hby at_151) rfl k) ?_
          show Goes p e below s _ _ _ T48 (mkF m 152 #[.val (.int p1), .val (.int p2), .val (.int p3), .val (.int p4), .val (.int p5), .val (.int (Int32.ofNat n)), .val (.int (0 : Int32)), .val (.int (1 : Int32)), .val (.int (1 : Int32)), .val (.ref b42), .val (.ref b44), .val (.int (2 : Int32)), .unset] [(.int ((p5.toUInt32 >>> ((16 : Int32) &&& 31).toUInt32).toInt32)), (.int (3 : Int32)), (.ref b44)])
          refine Goes.step (fun _ k => XS.i2b X48.here hx rfl (hb hby at_152) rfl k) ?_
          show Goes p e below s _ _ _ T48 (mkF m 153 #[.val (.int p1), .val (.int p2), .val (.int p3), .val (.int p4), .val (.int p5), .val (.int (Int32.ofNat n)), .val (.int (0 : Int32)), .val (.int (1 : Int32)), .val (.int (1 : Int32)), .val (.ref b42), .val (.ref b44), .val (.int (2 : Int32)), .unset] [(.int (((p5.toUInt32 >>> ((16 : Int32) &&& 31).toUInt32).toInt32).toInt8.toInt32)), (.int (3 : Int32)), (.ref b44)])
          obtain ⟨T49, h49, X49, e49, W49, A49, st49⟩ := stoB X48 hx hZ e48 A_b44_48 (3) rfl (by decide) (g := (mkF m 153 #[.val (.int p1), .val (.int p2), .val (.int p3), .val (.int p4), .val (.int p5), .val (.int (Int32.ofNat n)), .val (.int (0 : Int32)), .val (.int (1 : Int32)), .val (.int (1 : Int32)), .val (.ref b42), .val (.ref b44), .val (.int (2 : Int32)), .unset] [(.int (((p5.toUInt32 >>> ((16 : Int32) &&& 31).toUInt32).toInt32).toInt8.toInt32)), (.int (3 : Int32)), (.ref b44)])) rfl rfl (hb hby at_153)
          refine Goes.step st49 ?_
          have hE47_49 := hE47_48.wr W49
          have hFb47_49 := hFb47_48.other W49 (Or.inl ne_b42_b44)
          have hFs47_49 := hFs47_48.other W49 (Or.inl ne_b42_b44)
          have hA47_49 := hA47_48.other W49 (Ne.symm ne_b44_b47)
          have z_49 : n0 ≤ h49.size := by rw [W49.size]; exact z_48
          have K_49 : Keep h0 h49 [] := K_48.wr W49 (Or.inr sz_b44)
          have N_49 := Fr.snoc X49 N_48 ge_b44
          have A_b44_49 : Ari Z h49 b44 .byte (7) (updI (updI (updI (updI (fun _ => 0) (0) ((((p4.toUInt32 >>> ((8 : Int32) &&& 31).toUInt32).toInt32).toInt8.toInt32).toInt8.toInt32)) (1) ((p4.toInt8.toInt32).toInt8.toInt32)) (2) ((((p5.toUInt32 >>> ((24 : Int32) &&& 31).toUInt32).toInt32).toInt8.toInt32).toInt8.toInt32)) (3) ((((p5.toUInt32 >>> ((16 : Int32) &&& 31).toUInt32).toInt32).toInt8.toInt32).toInt8.toInt32)) := A49
          show Goes p e below s _ _ _ T49 (mkF m 154 #[.val (.int p1), .val (.int p2), .val (.int p3), .val (.int p4), .val (.int p5), .val (.int (Int32.ofNat n)), .val (.int (0 : Int32)), .val (.int (1 : Int32)), .val (.int (1 : Int32)), .val (.ref b42), .val (.ref b44), .val (.int (2 : Int32)), .unset] [])
          refine Goes.step (fun _ k => XS.aload X49.here hx rfl (hb hby at_154) rfl rfl k) ?_
          show Goes p e below s _ _ _ T49 (mkF m 156 #[.val (.int p1), .val (.int p2), .val (.int p3), .val (.int p4), .val (.int p5), .val (.int (Int32.ofNat n)), .val (.int (0 : Int32)), .val (.int (1 : Int32)), .val (.int (1 : Int32)), .val (.ref b42), .val (.ref b44), .val (.int (2 : Int32)), .unset] [(.ref b44)])
          refine Goes.step (fun _ k => XS.iload X49.here hx rfl (hb hby at_156) rfl k) ?_
          show Goes p e below s _ _ _ T49 (mkF m 158 #[.val (.int p1), .val (.int p2), .val (.int p3), .val (.int p4), .val (.int p5), .val (.int (Int32.ofNat n)), .val (.int (0 : Int32)), .val (.int (1 : Int32)), .val (.int (1 : Int32)), .val (.ref b42), .val (.ref b44), .val (.int (2 : Int32)), .unset] [(.int (2 : Int32)), (.ref b44)])
          refine Goes.step (fun _ k => XS.iconst X49.here hx rfl (hb hby at_158) k) ?_
          show Goes p e below s _ _ _ T49 (mkF m 159 #[.val (.int p1), .val (.int p2), .val (.int p3), .val (.int p4), .val (.int p5), .val (.int (Int32.ofNat n)), .val (.int (0 : Int32)), .val (.int (1 : Int32)), .val (.int (1 : Int32)), .val (.ref b42), .val (.ref b44), .val (.int (2 : Int32)), .unset] [(.int (2 : Int32)), (.int (2 : Int32)), (.ref b44)])
          refine Goes.step (fun _ k => XS.iadd X49.here hx rfl (hb hby at_159) rfl k) ?_
          show Goes p e below s _ _ _ T49 (mkF m 160 #[.val (.int p1), .val (.int p2), .val (.int p3), .val (.int p4), .val (.int p5), .val (.int (Int32.ofNat n)), .val (.int (0 : Int32)), .val (.int (1 : Int32)), .val (.int (1 : Int32)), .val (.ref b42), .val (.ref b44), .val (.int (2 : Int32)), .unset] [(.int (4 : Int32)), (.ref b44)])
          refine Goes.step (fun _ k => XS.iload X49.here hx rfl (hb hby at_160) rfl k) ?_
          show Goes p e below s _ _ _ T49 (mkF m 162 #[.val (.int p1), .val (.int p2), .val (.int p3), .val (.int p4), .val (.int p5), .val (.int (Int32.ofNat n)), .val (.int (0 : Int32)), .val (.int (1 : Int32)), .val (.int (1 : Int32)), .val (.ref b42), .val (.ref b44), .val (.int (2 : Int32)), .unset] [(.int p5), (.int (4 : Int32)), (.ref b44)])
          refine Goes.step (fun _ k => XS.bipush X49.here hx rfl (hb hby at_162) k) ?_
          show Goes p e below s _ _ _ T49 (mkF m 164 #[.val (.int p1), .val (.int p2), .val (.int p3), .val (.int p4), .val (.int p5), .val (.int (Int32.ofNat n)), .val (.int (0 : Int32)), .val (.int (1 : Int32)), .val (.int (1 : Int32)), .val (.ref b42), .val (.ref b44), .val (.int (2 : Int32)), .unset] [(.int (8 : Int32)), (.int p5), (.int (4 : Int32)), (.ref b44)])
          refine Goes.step (fun _ k => XS.iushr X49.here hx rfl (hb hby at_164) rfl k) ?_
          show Goes p e below s _ _ _ T49 (mkF m 165 #[.val (.int p1), .val (.int p2), .val (.int p3), .val (.int p4), .val (.int p5), .val (.int (Int32.ofNat n)), .val (.int (0 : Int32)), .val (.int (1 : Int32)), .val (.int (1 : Int32)), .val (.ref b42), .val (.ref b44), .val (.int (2 : Int32)), .unset] [(.int ((p5.toUInt32 >>> ((8 : Int32) &&& 31).toUInt32).toInt32)), (.int (4 : Int32)), (.ref b44)])
          refine Goes.step (fun _ k => XS.i2b X49.here hx rfl (hb hby at_165) rfl k) ?_
          show Goes p e below s _ _ _ T49 (mkF m 166 #[.val (.int p1), .val (.int p2), .val (.int p3), .val (.int p4), .val (.int p5), .val (.int (Int32.ofNat n)), .val (.int (0 : Int32)), .val (.int (1 : Int32)), .val (.int (1 : Int32)), .val (.ref b42), .val (.ref b44), .val (.int (2 : Int32)), .unset] [(.int (((p5.toUInt32 >>> ((8 : Int32) &&& 31).toUInt32).toInt32).toInt8.toInt32)), (.int (4 : Int32)), (.ref b44)])
          obtain ⟨T50, h50, X50, e50, W50, A50, st50⟩ := stoB X49 hx hZ e49 A_b44_49 (4) rfl (by decide) (g := (mkF m 166 #[.val (.int p1), .val (.int p2), .val (.int p3), .val (.int p4), .val (.int p5), .val (.int (Int32.ofNat n)), .val (.int (0 : Int32)), .val (.int (1 : Int32)), .val (.int (1 : Int32)), .val (.ref b42), .val (.ref b44), .val (.int (2 : Int32)), .unset] [(.int (((p5.toUInt32 >>> ((8 : Int32) &&& 31).toUInt32).toInt32).toInt8.toInt32)), (.int (4 : Int32)), (.ref b44)])) rfl rfl (hb hby at_166)
          refine Goes.step st50 ?_
          have hE47_50 := hE47_49.wr W50
          have hFb47_50 := hFb47_49.other W50 (Or.inl ne_b42_b44)
          have hFs47_50 := hFs47_49.other W50 (Or.inl ne_b42_b44)
          have hA47_50 := hA47_49.other W50 (Ne.symm ne_b44_b47)
          have z_50 : n0 ≤ h50.size := by rw [W50.size]; exact z_49
          have K_50 : Keep h0 h50 [] := K_49.wr W50 (Or.inr sz_b44)
          have N_50 := Fr.snoc X50 N_49 ge_b44
          have A_b44_50 : Ari Z h50 b44 .byte (7) (updI (updI (updI (updI (updI (fun _ => 0) (0) ((((p4.toUInt32 >>> ((8 : Int32) &&& 31).toUInt32).toInt32).toInt8.toInt32).toInt8.toInt32)) (1) ((p4.toInt8.toInt32).toInt8.toInt32)) (2) ((((p5.toUInt32 >>> ((24 : Int32) &&& 31).toUInt32).toInt32).toInt8.toInt32).toInt8.toInt32)) (3) ((((p5.toUInt32 >>> ((16 : Int32) &&& 31).toUInt32).toInt32).toInt8.toInt32).toInt8.toInt32)) (4) ((((p5.toUInt32 >>> ((8 : Int32) &&& 31).toUInt32).toInt32).toInt8.toInt32).toInt8.toInt32)) := A50
          show Goes p e below s _ _ _ T50 (mkF m 167 #[.val (.int p1), .val (.int p2), .val (.int p3), .val (.int p4), .val (.int p5), .val (.int (Int32.ofNat n)), .val (.int (0 : Int32)), .val (.int (1 : Int32)), .val (.int (1 : Int32)), .val (.ref b42), .val (.ref b44), .val (.int (2 : Int32)), .unset] [])
          refine Goes.step (fun _ k => XS.aload X50.here hx rfl (hb hby at_167) rfl rfl k) ?_
          show Goes p e below s _ _ _ T50 (mkF m 169 #[.val (.int p1), .val (.int p2), .val (.int p3), .val (.int p4), .val (.int p5), .val (.int (Int32.ofNat n)), .val (.int (0 : Int32)), .val (.int (1 : Int32)), .val (.int (1 : Int32)), .val (.ref b42), .val (.ref b44), .val (.int (2 : Int32)), .unset] [(.ref b44)])
          refine Goes.step (fun _ k => XS.iload X50.here hx rfl (hb hby at_169) rfl k) ?_
          show Goes p e below s _ _ _ T50 (mkF m 171 #[.val (.int p1), .val (.int p2), .val (.int p3), .val (.int p4), .val (.int p5), .val (.int (Int32.ofNat n)), .val (.int (0 : Int32)), .val (.int (1 : Int32)), .val (.int (1 : Int32)), .val (.ref b42), .val (.ref b44), .val (.int (2 : Int32)), .unset] [(.int (2 : Int32)), (.ref b44)])
          refine Goes.step (fun _ k => XS.iconst X50.here hx rfl (hb hby at_171) k) ?_
          show Goes p e below s _ _ _ T50 (mkF m 172 #[.val (.int p1), .val (.int p2), .val (.int p3), .val (.int p4), .val (.int p5), .val (.int (Int32.ofNat n)), .val (.int (0 : Int32)), .val (.int (1 : Int32)), .val (.int (1 : Int32)), .val (.ref b42), .val (.ref b44), .val (.int (2 : Int32)), .unset] [(.int (3 : Int32)), (.int (2 : Int32)), (.ref b44)])
          refine Goes.step (fun _ k => XS.iadd X50.here hx rfl (hb hby at_172) rfl k) ?_
          show Goes p e below s _ _ _ T50 (mkF m 173 #[.val (.int p1), .val (.int p2), .val (.int p3), .val (.int p4), .val (.int p5), .val (.int (Int32.ofNat n)), .val (.int (0 : Int32)), .val (.int (1 : Int32)), .val (.int (1 : Int32)), .val (.ref b42), .val (.ref b44), .val (.int (2 : Int32)), .unset] [(.int (5 : Int32)), (.ref b44)])
          refine Goes.step (fun _ k => XS.iload X50.here hx rfl (hb hby at_173) rfl k) ?_
          show Goes p e below s _ _ _ T50 (mkF m 175 #[.val (.int p1), .val (.int p2), .val (.int p3), .val (.int p4), .val (.int p5), .val (.int (Int32.ofNat n)), .val (.int (0 : Int32)), .val (.int (1 : Int32)), .val (.int (1 : Int32)), .val (.ref b42), .val (.ref b44), .val (.int (2 : Int32)), .unset] [(.int p5), (.int (5 : Int32)), (.ref b44)])
          refine Goes.step (fun _ k => XS.i2b X50.here hx rfl (hb hby at_175) rfl k) ?_
          show Goes p e below s _ _ _ T50 (mkF m 176 #[.val (.int p1), .val (.int p2), .val (.int p3), .val (.int p4), .val (.int p5), .val (.int (Int32.ofNat n)), .val (.int (0 : Int32)), .val (.int (1 : Int32)), .val (.int (1 : Int32)), .val (.ref b42), .val (.ref b44), .val (.int (2 : Int32)), .unset] [(.int (p5.toInt8.toInt32)), (.int (5 : Int32)), (.ref b44)])
          obtain ⟨T51, h51, X51, e51, W51, A51, st51⟩ := stoB X50 hx hZ e50 A_b44_50 (5) rfl (by decide) (g := (mkF m 176 #[.val (.int p1), .val (.int p2), .val (.int p3), .val (.int p4), .val (.int p5), .val (.int (Int32.ofNat n)), .val (.int (0 : Int32)), .val (.int (1 : Int32)), .val (.int (1 : Int32)), .val (.ref b42), .val (.ref b44), .val (.int (2 : Int32)), .unset] [(.int (p5.toInt8.toInt32)), (.int (5 : Int32)), (.ref b44)])) rfl rfl (hb hby at_176)
          refine Goes.step st51 ?_
          have hE47_51 := hE47_50.wr W51
          have hFb47_51 := hFb47_50.other W51 (Or.inl ne_b42_b44)
          have hFs47_51 := hFs47_50.other W51 (Or.inl ne_b42_b44)
          have hA47_51 := hA47_50.other W51 (Ne.symm ne_b44_b47)
          have z_51 : n0 ≤ h51.size := by rw [W51.size]; exact z_50
          have K_51 : Keep h0 h51 [] := K_50.wr W51 (Or.inr sz_b44)
          have N_51 := Fr.snoc X51 N_50 ge_b44
          have A_b44_51 : Ari Z h51 b44 .byte (7) (updI (updI (updI (updI (updI (updI (fun _ => 0) (0) ((((p4.toUInt32 >>> ((8 : Int32) &&& 31).toUInt32).toInt32).toInt8.toInt32).toInt8.toInt32)) (1) ((p4.toInt8.toInt32).toInt8.toInt32)) (2) ((((p5.toUInt32 >>> ((24 : Int32) &&& 31).toUInt32).toInt32).toInt8.toInt32).toInt8.toInt32)) (3) ((((p5.toUInt32 >>> ((16 : Int32) &&& 31).toUInt32).toInt32).toInt8.toInt32).toInt8.toInt32)) (4) ((((p5.toUInt32 >>> ((8 : Int32) &&& 31).toUInt32).toInt32).toInt8.toInt32).toInt8.toInt32)) (5) ((p5.toInt8.toInt32).toInt8.toInt32)) := A51
          show Goes p e below s _ _ _ T51 (mkF m 177 #[.val (.int p1), .val (.int p2), .val (.int p3), .val (.int p4), .val (.int p5), .val (.int (Int32.ofNat n)), .val (.int (0 : Int32)), .val (.int (1 : Int32)), .val (.int (1 : Int32)), .val (.ref b42), .val (.ref b44), .val (.int (2 : Int32)), .unset] [])
          refine Goes.step (fun _ k => XS.iload X51.here hx rfl (hb hby at_177) rfl k) ?_
          show Goes p e below s _ _ _ T51 (mkF m 179 #[.val (.int p1), .val (.int p2), .val (.int p3), .val (.int p4), .val (.int p5), .val (.int (Int32.ofNat n)), .val (.int (0 : Int32)), .val (.int (1 : Int32)), .val (.int (1 : Int32)), .val (.ref b42), .val (.ref b44), .val (.int (2 : Int32)), .unset] [(.int (2 : Int32))])
          refine Goes.step (fun _ k => XS.iconst X51.here hx rfl (hb hby at_179) k) ?_
          show Goes p e below s _ _ _ T51 (mkF m 180 #[.val (.int p1), .val (.int p2), .val (.int p3), .val (.int p4), .val (.int p5), .val (.int (Int32.ofNat n)), .val (.int (0 : Int32)), .val (.int (1 : Int32)), .val (.int (1 : Int32)), .val (.ref b42), .val (.ref b44), .val (.int (2 : Int32)), .unset] [(.int (4 : Int32)), (.int (2 : Int32))])
          refine Goes.step (fun _ k => XS.iadd X51.here hx rfl (hb hby at_180) rfl k) ?_
          show Goes p e below s _ _ _ T51 (mkF m 181 #[.val (.int p1), .val (.int p2), .val (.int p3), .val (.int p4), .val (.int p5), .val (.int (Int32.ofNat n)), .val (.int (0 : Int32)), .val (.int (1 : Int32)), .val (.int (1 : Int32)), .val (.ref b42), .val (.ref b44), .val (.int (2 : Int32)), .unset] [(.int (6 : Int32))])
          refine Goes.step (fun _ k => XS.istore X51.here hx rfl (hb hby at_181) rfl (l' := #[.val (.int p1), .val (.int p2), .val (.int p3), .val (.int p4), .val (.int p5), .val (.int (Int32.ofNat n)), .val (.int (0 : Int32)), .val (.int (1 : Int32)), .val (.int (1 : Int32)), .val (.ref b42), .val (.ref b44), .val (.int (6 : Int32)), .unset]) rfl k) ?_
          show Goes p e below s _ _ _ T51 (mkF m 183 #[.val (.int p1), .val (.int p2), .val (.int p3), .val (.int p4), .val (.int p5), .val (.int (Int32.ofNat n)), .val (.int (0 : Int32)), .val (.int (1 : Int32)), .val (.int (1 : Int32)), .val (.ref b42), .val (.ref b44), .val (.int (6 : Int32)), .unset] [])
          refine Goes.step (fun _ k => XS.aload X51.here hx rfl (hb hby at_183) rfl rfl k) ?_
          show Goes p e below s _ _ _ T51 (mkF m 185 #[.val (.int p1), .val (.int p2), .val (.int p3), .val (.int p4), .val (.int p5), .val (.int (Int32.ofNat n)), .val (.int (0 : Int32)), .val (.int (1 : Int32)), .val (.int (1 : Int32)), .val (.ref b42), .val (.ref b44), .val (.int (6 : Int32)), .unset] [(.ref b42)])
          refine Goes.step (fun _ k => XS.iload X51.here hx rfl (hb hby at_185) rfl k) ?_
          show Goes p e below s _ _ _ T51 (mkF m 187 #[.val (.int p1), .val (.int p2), .val (.int p3), .val (.int p4), .val (.int p5), .val (.int (Int32.ofNat n)), .val (.int (0 : Int32)), .val (.int (1 : Int32)), .val (.int (1 : Int32)), .val (.ref b42), .val (.ref b44), .val (.int (6 : Int32)), .unset] [(.int p5), (.ref b42)])
          obtain ⟨v52, T52, h52, L52, X52, e52, Q52, st52⟩ := callXV X51 hx hZ (C := "com/example/proxysmith/proxysmith/ClassFileWriter$Bytes") (b := b42) (y := (⟨"com/example/proxysmith/proxysmith/ClassFileWriter$Bytes", "u4", "(I)V"⟩ : MethodName)) (z := (⟨"com/example/proxysmith/proxysmith/ClassFileWriter$Bytes", "u4", "(I)V"⟩ : MethodName)) hown (hw _ (List.mem_of_getElem? (i := 52) rfl)) (hw _ (List.mem_of_getElem? (i := 53) rfl)) (hw _ (List.mem_of_getElem? (i := 55) rfl)) (hw _ (List.mem_of_getElem? (i := 54) rfl)) (hw _ (List.mem_of_getElem? (i := 56) rfl)) (hw _ (List.mem_of_getElem? (i := 2) rfl)) (notFace_of_selects (args := #[]) (mvT hZ (hw _ (List.mem_of_getElem? (i := 55) rfl)))) (by decide) (W := 0) (argsL := [(.int p5)]) (rest := []) (rm11 l Z a0 hw [] b42 p5 b47 n47 (0 + 2) f47 h51 n0 z_51 hE47_51 hFb47_51 hFs47_51 hA47_51 hab47 ge_b42 hg47 hs47 hn47 (by omega)) (by decide) (by decide) (by decide) (by decide) e51 hE47_51 (g := (mkF m 187 #[.val (.int p1), .val (.int p2), .val (.int p3), .val (.int p4), .val (.int p5), .val (.int (Int32.ofNat n)), .val (.int (0 : Int32)), .val (.int (1 : Int32)), .val (.int (1 : Int32)), .val (.ref b42), .val (.ref b44), .val (.int (6 : Int32)), .unset] [(.int p5), (.ref b42)])) rfl (by rw [hml]; rfl) (lenOf pd_0_0 rfl) rfl (by show 2 * 0 + _ ≤ _; exact Nat.le_of_eq rfl) (hb hby at_187)
          obtain ⟨b52, n52, f52, rfl, NQ52, KQ52, hE52, hFb52, hFs52, hA52, hab52, hg52, ho52, hs52, hn52, hf52, hv52, hu52, hx52, hy52⟩ := Q52
          refine Goes.step st52 ?_
          have hE47_52 := hE47_51.keep KQ52
          have A_b44_52 := A_b44_51.keep KQ52 (ninS (Ne.symm ne_b42_b44) (ninS ne_b44_b47 nin0))
          have z_52 : n0 ≤ h52.size := Nat.le_trans z_51 KQ52.1
          have K_52 : Keep h0 h52 [] := Keep.trans K_51 KQ52 (allS (Or.inr sz_b42) (allS mem_b47 all0))
          have N_52 := Fr.app N_51 NQ52
          have ne_b44_b52 : b44 ≠ b52 := ho52.elim (fun q z => ne_b44_b47 (z.trans q)) (fun q => Nat.ne_of_lt (Nat.lt_of_lt_of_le A_b44_51.lt q))
          have mem_b52 : b52 ∈ [] ∨ h0.size ≤ b52 := ho52.elim (fun q => q ▸ mem_b47) (fun q => Or.inr (Nat.le_trans K_51.1 q))
          show Goes p e below s _ _ _ T52 (mkF m 190 #[.val (.int p1), .val (.int p2), .val (.int p3), .val (.int p4), .val (.int p5), .val (.int (Int32.ofNat n)), .val (.int (0 : Int32)), .val (.int (1 : Int32)), .val (.int (1 : Int32)), .val (.ref b42), .val (.ref b44), .val (.int (6 : Int32)), .unset] [])
          refine Goes.step (fun _ k => XS.aload X52.here hx rfl (hb hby at_190) rfl rfl k) ?_
          show Goes p e below s _ _ _ T52 (mkF m 192 #[.val (.int p1), .val (.int p2), .val (.int p3), .val (.int p4), .val (.int p5), .val (.int (Int32.ofNat n)), .val (.int (0 : Int32)), .val (.int (1 : Int32)), .val (.int (1 : Int32)), .val (.ref b42), .val (.ref b44), .val (.int (6 : Int32)), .unset] [(.ref b42)])
          obtain ⟨v53, T53, h53, L53, X53, e53, Q53, st53⟩ := callXV X52 hx hZ (C := "com/example/proxysmith/proxysmith/ClassFileWriter$Bytes") (b := b42) (y := (⟨"com/example/proxysmith/proxysmith/ClassFileWriter$Bytes", "toByteArray", "()[B"⟩ : MethodName)) (z := (⟨"com/example/proxysmith/proxysmith/ClassFileWriter$Bytes", "toByteArray", "()[B"⟩ : MethodName)) hown (hw _ (List.mem_of_getElem? (i := 43) rfl)) (hw _ (List.mem_of_getElem? (i := 44) rfl)) (hw _ (List.mem_of_getElem? (i := 46) rfl)) (hw _ (List.mem_of_getElem? (i := 45) rfl)) (hw _ (List.mem_of_getElem? (i := 47) rfl)) (hw _ (List.mem_of_getElem? (i := 2) rfl)) (notFace_of_selects (args := #[]) (mvT hZ (hw _ (List.mem_of_getElem? (i := 46) rfl)))) (by decide) (W := 0) (argsL := []) (rest := []) (rm9 l Z a0 hw [] b42 b52 n52 6 f52 h52 n0 z_52 hE52 hFb52 hFs52 hA52 hab52 ge_b42 hg52 hs52 hn52 (by omega)) (by decide) (by decide) (by decide) (by decide) e52 hE52 (g := (mkF m 192 #[.val (.int p1), .val (.int p2), .val (.int p3), .val (.int p4), .val (.int p5), .val (.int (Int32.ofNat n)), .val (.int (0 : Int32)), .val (.int (1 : Int32)), .val (.int (1 : Int32)), .val (.ref b42), .val (.ref b44), .val (.int (6 : Int32)), .unset] [(.ref b42)])) rfl (by rw [hml]; rfl) (lenOf pd_0_1 rfl) rfl (by show 2 * 0 + _ ≤ _; exact Nat.le_of_eq rfl) (hb hby at_192)
          obtain ⟨r53, rfl, NQ53, KQ53, g53, hA53, hg53⟩ := Q53
          refine Goes.step st53 ?_
          have hE52_53 := hE52.keep KQ53
          have A_b44_53 := A_b44_52.keep KQ53 nin0
          have hFb52_53 := hFb52.keep KQ53 nin0
          have hFs52_53 := hFs52.keep KQ53 nin0
          have hA52_53 := hA52.keep KQ53 nin0
          have z_53 : n0 ≤ h53.size := Nat.le_trans z_52 KQ53.1
          have K_53 : Keep h0 h53 [] := Keep.trans K_52 KQ53 all0
          have N_53 := Fr.app N_52 NQ53
          show Goes p e below s _ _ _ T53 (mkF m 195 #[.val (.int p1), .val (.int p2), .val (.int p3), .val (.int p4), .val (.int p5), .val (.int (Int32.ofNat n)), .val (.int (0 : Int32)), .val (.int (1 : Int32)), .val (.int (1 : Int32)), .val (.ref b42), .val (.ref b44), .val (.int (6 : Int32)), .unset] [(.ref r53)])
          refine Goes.step (fun _ k => XS.astore X53.here hx rfl (hb hby at_195) rfl rfl (l' := #[.val (.int p1), .val (.int p2), .val (.int p3), .val (.int p4), .val (.int p5), .val (.int (Int32.ofNat n)), .val (.int (0 : Int32)), .val (.int (1 : Int32)), .val (.int (1 : Int32)), .val (.ref b42), .val (.ref b44), .val (.int (6 : Int32)), .val (.ref r53)]) rfl k) ?_
          show Goes p e below s _ _ _ T53 (mkF m 197 #[.val (.int p1), .val (.int p2), .val (.int p3), .val (.int p4), .val (.int p5), .val (.int (Int32.ofNat n)), .val (.int (0 : Int32)), .val (.int (1 : Int32)), .val (.int (1 : Int32)), .val (.ref b42), .val (.ref b44), .val (.int (6 : Int32)), .val (.ref r53)] [])
          refine Goes.step (fun _ k => XS.aload X53.here hx rfl (hb hby at_197) rfl rfl k) ?_
          show Goes p e below s _ _ _ T53 (mkF m 199 #[.val (.int p1), .val (.int p2), .val (.int p3), .val (.int p4), .val (.int p5), .val (.int (Int32.ofNat n)), .val (.int (0 : Int32)), .val (.int (1 : Int32)), .val (.int (1 : Int32)), .val (.ref b42), .val (.ref b44), .val (.int (6 : Int32)), .val (.ref r53)] [(.ref r53)])
          refine Goes.step (fun _ k => XS.ifnullNo X53.here hx rfl (hb hby at_199) rfl k) ?_
          show Goes p e below s _ _ _ T53 (mkF m 202 #[.val (.int p1), .val (.int p2), .val (.int p3), .val (.int p4), .val (.int p5), .val (.int (Int32.ofNat n)), .val (.int (0 : Int32)), .val (.int (1 : Int32)), .val (.int (1 : Int32)), .val (.ref b42), .val (.ref b44), .val (.int (6 : Int32)), .val (.ref r53)] [])
          refine Goes.step (fun _ k => XS.aload X53.here hx rfl (hb hby at_202) rfl rfl k) ?_
          show Goes p e below s _ _ _ T53 (mkF m 204 #[.val (.int p1), .val (.int p2), .val (.int p3), .val (.int p4), .val (.int p5), .val (.int (Int32.ofNat n)), .val (.int (0 : Int32)), .val (.int (1 : Int32)), .val (.int (1 : Int32)), .val (.ref b42), .val (.ref b44), .val (.int (6 : Int32)), .val (.ref r53)] [(.ref r53)])
          refine Goes.step (fun _ k => rdL X53 hx hZ e53 hA53 (g := (mkF m 204 #[.val (.int p1), .val (.int p2), .val (.int p3), .val (.int p4), .val (.int p5), .val (.int (Int32.ofNat n)), .val (.int (0 : Int32)), .val (.int (1 : Int32)), .val (.int (1 : Int32)), .val (.ref b42), .val (.ref b44), .val (.int (6 : Int32)), .val (.ref r53)] [(.ref r53)])) rfl rfl (hb hby at_204) _ k) ?_
          show Goes p e below s _ _ _ T53 (mkF m 205 #[.val (.int p1), .val (.int p2), .val (.int p3), .val (.int p4), .val (.int p5), .val (.int (Int32.ofNat n)), .val (.int (0 : Int32)), .val (.int (1 : Int32)), .val (.int (1 : Int32)), .val (.ref b42), .val (.ref b44), .val (.int (6 : Int32)), .val (.ref r53)] [(.int (Int32.ofNat 6))])
          refine Goes.step (fun _ k => XS.iload X53.here hx rfl (hb hby at_205) rfl k) ?_
          show Goes p e below s _ _ _ T53 (mkF m 207 #[.val (.int p1), .val (.int p2), .val (.int p3), .val (.int p4), .val (.int p5), .val (.int (Int32.ofNat n)), .val (.int (0 : Int32)), .val (.int (1 : Int32)), .val (.int (1 : Int32)), .val (.ref b42), .val (.ref b44), .val (.int (6 : Int32)), .val (.ref r53)] [(.int (6 : Int32)), (.int (Int32.ofNat 6))])
          refine Goes.step (fun _ k => XS.icmpYes X53.here hx rfl (pc0 := 207) (pc' := 212) rfl (hb hby at_207) rfl (teq (by decide : (Int32.ofNat 6) = (6 : Int32))).1 (by decide) (by decide) k) ?_
          show Goes p e below s _ _ _ T53 (mkF m 212 #[.val (.int p1), .val (.int p2), .val (.int p3), .val (.int p4), .val (.int p5), .val (.int (Int32.ofNat n)), .val (.int (0 : Int32)), .val (.int (1 : Int32)), .val (.int (1 : Int32)), .val (.ref b42), .val (.ref b44), .val (.int (6 : Int32)), .val (.ref r53)] [])
          refine Goes.step (fun _ k => XS.aload X53.here hx rfl (hb hby at_212) rfl rfl k) ?_
          show Goes p e below s _ _ _ T53 (mkF m 214 #[.val (.int p1), .val (.int p2), .val (.int p3), .val (.int p4), .val (.int p5), .val (.int (Int32.ofNat n)), .val (.int (0 : Int32)), .val (.int (1 : Int32)), .val (.int (1 : Int32)), .val (.ref b42), .val (.ref b44), .val (.int (6 : Int32)), .val (.ref r53)] [(.ref r53)])
          as_aux_lemma =>
            refine Goes.step (fun _ k => XS.aload X53.here hx rfl (hb hby at_214) rfl rfl k) ?_
            show Goes p e below s _ _ _ T53 (mkF m 216 #[.val (.int p1), .val (.int p2), .val (.int p3), .val (.int p4), .val (.int p5), .val (.int (Int32.ofNat n)), .val (.int (0 : Int32)), .val (.int (1 : Int32)), .val (.int (1 : Int32)), .val (.ref b42), .val (.ref b44), .val (.int (6 : Int32)), .val (.ref r53)] [(.ref b44), (.ref r53)])
            refine Goes.step (fun _ k => XS.iload X53.here hx rfl (hb hby at_216) rfl k) ?_
            show Goes p e below s _ _ _ T53 (mkF m 218 #[.val (.int p1), .val (.int p2), .val (.int p3), .val (.int p4), .val (.int p5), .val (.int (Int32.ofNat n)), .val (.int (0 : Int32)), .val (.int (1 : Int32)), .val (.int (1 : Int32)), .val (.ref b42), .val (.ref b44), .val (.int (6 : Int32)), .val (.ref r53)] [(.int (6 : Int32)), (.ref b44), (.ref r53)])
            refine Goes.step (fun _ k => XS.iconst X53.here hx rfl (hb hby at_218) k) ?_
            show Goes p e below s _ _ _ T53 (mkF m 219 #[.val (.int p1), .val (.int p2), .val (.int p3), .val (.int p4), .val (.int p5), .val (.int (Int32.ofNat n)), .val (.int (0 : Int32)), .val (.int (1 : Int32)), .val (.int (1 : Int32)), .val (.ref b42), .val (.ref b44), .val (.int (6 : Int32)), .val (.ref r53)] [(.int (0 : Int32)), (.int (6 : Int32)), (.ref b44), (.ref r53)])
            obtain ⟨T54, X54, e54, st54⟩ := callPure X53 hx hZ (y := (⟨"com/example/proxysmith/proxysmith/BytesToByteArrayPinLaw", "same", "([B[BII)Z"⟩ : MethodName)) hown (hw _ (List.mem_of_getElem? (i := 48) rfl)) (hw _ (List.mem_of_getElem? (i := 49) rfl)) (hw _ (List.mem_of_getElem? (i := 50) rfl)) (hw _ (List.mem_of_getElem? (i := 51) rfl)) (by decide) (W := 0) (argsL := [(.ref r53), (.ref b44), (.int (6 : Int32)), (.int (0 : Int32))]) (rest := []) (r := (.int (1 : Int32))) (fun _ _ _ q => q) (rm10b l Z a0 hw [] r53 b44 (6 : Int32) (0 : Int32) 0 6 7 g53 (updI (updI (updI (updI (updI (updI (fun _ => 0) (0) ((((p4.toUInt32 >>> ((8 : Int32) &&& 31).toUInt32).toInt32).toInt8.toInt32).toInt8.toInt32)) (1) ((p4.toInt8.toInt32).toInt8.toInt32)) (2) ((((p5.toUInt32 >>> ((24 : Int32) &&& 31).toUInt32).toInt32).toInt8.toInt32).toInt8.toInt32)) (3) ((((p5.toUInt32 >>> ((16 : Int32) &&& 31).toUInt32).toInt32).toInt8.toInt32).toInt8.toInt32)) (4) ((((p5.toUInt32 >>> ((8 : Int32) &&& 31).toUInt32).toInt32).toInt8.toInt32).toInt8.toInt32)) (5) ((p5.toInt8.toInt32).toInt8.toInt32)) h53 n0 z_53 (by decide) rfl hA53 A_b44_53 (by decide) (by decide) ((hg53 0 (by omega)).trans (((hf52 0 (by omega)).trans hv47).trans (own_BB _).symm))) (by decide) (by decide) (by decide) (by decide) e53 (g := (mkF m 219 #[.val (.int p1), .val (.int p2), .val (.int p3), .val (.int p4), .val (.int p5), .val (.int (Int32.ofNat n)), .val (.int (0 : Int32)), .val (.int (1 : Int32)), .val (.int (1 : Int32)), .val (.ref b42), .val (.ref b44), .val (.int (6 : Int32)), .val (.ref r53)] [(.int (0 : Int32)), (.int (6 : Int32)), (.ref b44), (.ref r53)])) rfl (by rw [hml]; rfl) (lenOf pd_0_2 rfl) rfl (by show 2 * 0 + _ ≤ _; exact Nat.le_of_eq rfl) (hb hby at_219)
            refine Goes.step st54 ?_
            show Goes p e below s _ _ _ T54 (mkF m 222 #[.val (.int p1), .val (.int p2), .val (.int p3), .val (.int p4), .val (.int p5), .val (.int (Int32.ofNat n)), .val (.int (0 : Int32)), .val (.int (1 : Int32)), .val (.int (1 : Int32)), .val (.ref b42), .val (.ref b44), .val (.int (6 : Int32)), .val (.ref r53)] [(.int (1 : Int32))])
            refine Goes.step (fun _ k => XS.ifNo X54.here hx rfl (hb hby at_222) rfl ((if0 _ _).trans (feq (by decide : ¬ ((1 : Int32) = (0 : Int32)))).1) k) ?_
            show Goes p e below s _ _ _ T54 (mkF m 225 #[.val (.int p1), .val (.int p2), .val (.int p3), .val (.int p4), .val (.int p5), .val (.int (Int32.ofNat n)), .val (.int (0 : Int32)), .val (.int (1 : Int32)), .val (.int (1 : Int32)), .val (.ref b42), .val (.ref b44), .val (.int (6 : Int32)), .val (.ref r53)] [])
            refine Goes.step (fun _ k => XS.aload X54.here hx rfl (hb hby at_225) rfl rfl k) ?_
            show Goes p e below s _ _ _ T54 (mkF m 227 #[.val (.int p1), .val (.int p2), .val (.int p3), .val (.int p4), .val (.int p5), .val (.int (Int32.ofNat n)), .val (.int (0 : Int32)), .val (.int (1 : Int32)), .val (.int (1 : Int32)), .val (.ref b42), .val (.ref b44), .val (.int (6 : Int32)), .val (.ref r53)] [(.ref r53)])
            refine Goes.step (fun _ k => XS.aload X54.here hx rfl (hb hby at_227) rfl rfl k) ?_
            show Goes p e below s _ _ _ T54 (mkF m 229 #[.val (.int p1), .val (.int p2), .val (.int p3), .val (.int p4), .val (.int p5), .val (.int (Int32.ofNat n)), .val (.int (0 : Int32)), .val (.int (1 : Int32)), .val (.int (1 : Int32)), .val (.ref b42), .val (.ref b44), .val (.int (6 : Int32)), .val (.ref r53)] [(.ref b44), (.ref r53)])
            refine Goes.step (fun _ k => XS.iload X54.here hx rfl (hb hby at_229) rfl k) ?_
            show Goes p e below s _ _ _ T54 (mkF m 231 #[.val (.int p1), .val (.int p2), .val (.int p3), .val (.int p4), .val (.int p5), .val (.int (Int32.ofNat n)), .val (.int (0 : Int32)), .val (.int (1 : Int32)), .val (.int (1 : Int32)), .val (.ref b42), .val (.ref b44), .val (.int (6 : Int32)), .val (.ref r53)] [(.int (6 : Int32)), (.ref b44), (.ref r53)])
            refine Goes.step (fun _ k => XS.iconst X54.here hx rfl (hb hby at_231) k) ?_
            show Goes p e below s _ _ _ T54 (mkF m 232 #[.val (.int p1), .val (.int p2), .val (.int p3), .val (.int p4), .val (.int p5), .val (.int (Int32.ofNat n)), .val (.int (0 : Int32)), .val (.int (1 : Int32)), .val (.int (1 : Int32)), .val (.ref b42), .val (.ref b44), .val (.int (6 : Int32)), .val (.ref r53)] [(.int (1 : Int32)), (.int (6 : Int32)), (.ref b44), (.ref r53)])
            obtain ⟨T55, X55, e55, st55⟩ := callPure X54 hx hZ (y := (⟨"com/example/proxysmith/proxysmith/BytesToByteArrayPinLaw", "same", "([B[BII)Z"⟩ : MethodName)) hown (hw _ (List.mem_of_getElem? (i := 48) rfl)) (hw _ (List.mem_of_getElem? (i := 49) rfl)) (hw _ (List.mem_of_getElem? (i := 50) rfl)) (hw _ (List.mem_of_getElem? (i := 51) rfl)) (by decide) (W := 0) (argsL := [(.ref r53), (.ref b44), (.int (6 : Int32)), (.int (1 : Int32))]) (rest := []) (r := (.int (1 : Int32))) (fun _ _ _ q => q) (rm10b l Z a0 hw [] r53 b44 (6 : Int32) (1 : Int32) 1 6 7 g53 (updI (updI (updI (updI (updI (updI (fun _ => 0) (0) ((((p4.toUInt32 >>> ((8 : Int32) &&& 31).toUInt32).toInt32).toInt8.toInt32).toInt8.toInt32)) (1) ((p4.toInt8.toInt32).toInt8.toInt32)) (2) ((((p5.toUInt32 >>> ((24 : Int32) &&& 31).toUInt32).toInt32).toInt8.toInt32).toInt8.toInt32)) (3) ((((p5.toUInt32 >>> ((16 : Int32) &&& 31).toUInt32).toInt32).toInt8.toInt32).toInt8.toInt32)) (4) ((((p5.toUInt32 >>> ((8 : Int32) &&& 31).toUInt32).toInt32).toInt8.toInt32).toInt8.toInt32)) (5) ((p5.toInt8.toInt32).toInt8.toInt32)) h53 n0 z_53 (by decide) rfl hA53 A_b44_53 (by decide) (by decide) ((hg53 1 (by omega)).trans (((hf52 1 (by omega)).trans hu47).trans (own_BB _).symm))) (by decide) (by decide) (by decide) (by decide) e54 (g := (mkF m 232 #[.val (.int p1), .val (.int p2), .val (.int p3), .val (.int p4), .val (.int p5), .val (.int (Int32.ofNat n)), .val (.int (0 : Int32)), .val (.int (1 : Int32)), .val (.int (1 : Int32)), .val (.ref b42), .val (.ref b44), .val (.int (6 : Int32)), .val (.ref r53)] [(.int (1 : Int32)), (.int (6 : Int32)), (.ref b44), (.ref r53)])) rfl (by rw [hml]; rfl) (lenOf pd_0_2 rfl) rfl (by show 2 * 0 + _ ≤ _; exact Nat.le_of_eq rfl) (hb hby at_232)
            refine Goes.step st55 ?_
            show Goes p e below s _ _ _ T55 (mkF m 235 #[.val (.int p1), .val (.int p2), .val (.int p3), .val (.int p4), .val (.int p5), .val (.int (Int32.ofNat n)), .val (.int (0 : Int32)), .val (.int (1 : Int32)), .val (.int (1 : Int32)), .val (.ref b42), .val (.ref b44), .val (.int (6 : Int32)), .val (.ref r53)] [(.int (1 : Int32))])
            refine Goes.step (fun _ k => XS.ifNo X55.here hx rfl (hb hby at_235) rfl ((if0 _ _).trans (feq (by decide : ¬ ((1 : Int32) = (0 : Int32)))).1) k) ?_
            show Goes p e below s _ _ _ T55 (mkF m 238 #[.val (.int p1), .val (.int p2), .val (.int p3), .val (.int p4), .val (.int p5), .val (.int (Int32.ofNat n)), .val (.int (0 : Int32)), .val (.int (1 : Int32)), .val (.int (1 : Int32)), .val (.ref b42), .val (.ref b44), .val (.int (6 : Int32)), .val (.ref r53)] [])
            refine Goes.step (fun _ k => XS.aload X55.here hx rfl (hb hby at_238) rfl rfl k) ?_
            show Goes p e below s _ _ _ T55 (mkF m 240 #[.val (.int p1), .val (.int p2), .val (.int p3), .val (.int p4), .val (.int p5), .val (.int (Int32.ofNat n)), .val (.int (0 : Int32)), .val (.int (1 : Int32)), .val (.int (1 : Int32)), .val (.ref b42), .val (.ref b44), .val (.int (6 : Int32)), .val (.ref r53)] [(.ref r53)])
            refine Goes.step (fun _ k => XS.aload X55.here hx rfl (hb hby at_240) rfl rfl k) ?_
            show Goes p e below s _ _ _ T55 (mkF m 242 #[.val (.int p1), .val (.int p2), .val (.int p3), .val (.int p4), .val (.int p5), .val (.int (Int32.ofNat n)), .val (.int (0 : Int32)), .val (.int (1 : Int32)), .val (.int (1 : Int32)), .val (.ref b42), .val (.ref b44), .val (.int (6 : Int32)), .val (.ref r53)] [(.ref b44), (.ref r53)])
            refine Goes.step (fun _ k => XS.iload X55.here hx rfl (hb hby at_242) rfl k) ?_
            show Goes p e below s _ _ _ T55 (mkF m 244 #[.val (.int p1), .val (.int p2), .val (.int p3), .val (.int p4), .val (.int p5), .val (.int (Int32.ofNat n)), .val (.int (0 : Int32)), .val (.int (1 : Int32)), .val (.int (1 : Int32)), .val (.ref b42), .val (.ref b44), .val (.int (6 : Int32)), .val (.ref r53)] [(.int (6 : Int32)), (.ref b44), (.ref r53)])
            refine Goes.step (fun _ k => XS.iconst X55.here hx rfl (hb hby at_244) k) ?_
            show Goes p e below s _ _ _ T55 (mkF m 245 #[.val (.int p1), .val (.int p2), .val (.int p3), .val (.int p4), .val (.int p5), .val (.int (Int32.ofNat n)), .val (.int (0 : Int32)), .val (.int (1 : Int32)), .val (.int (1 : Int32)), .val (.ref b42), .val (.ref b44), .val (.int (6 : Int32)), .val (.ref r53)] [(.int (2 : Int32)), (.int (6 : Int32)), (.ref b44), (.ref r53)])
            obtain ⟨T56, X56, e56, st56⟩ := callPure X55 hx hZ (y := (⟨"com/example/proxysmith/proxysmith/BytesToByteArrayPinLaw", "same", "([B[BII)Z"⟩ : MethodName)) hown (hw _ (List.mem_of_getElem? (i := 48) rfl)) (hw _ (List.mem_of_getElem? (i := 49) rfl)) (hw _ (List.mem_of_getElem? (i := 50) rfl)) (hw _ (List.mem_of_getElem? (i := 51) rfl)) (by decide) (W := 0) (argsL := [(.ref r53), (.ref b44), (.int (6 : Int32)), (.int (2 : Int32))]) (rest := []) (r := (.int (1 : Int32))) (fun _ _ _ q => q) (rm10b l Z a0 hw [] r53 b44 (6 : Int32) (2 : Int32) 2 6 7 g53 (updI (updI (updI (updI (updI (updI (fun _ => 0) (0) ((((p4.toUInt32 >>> ((8 : Int32) &&& 31).toUInt32).toInt32).toInt8.toInt32).toInt8.toInt32)) (1) ((p4.toInt8.toInt32).toInt8.toInt32)) (2) ((((p5.toUInt32 >>> ((24 : Int32) &&& 31).toUInt32).toInt32).toInt8.toInt32).toInt8.toInt32)) (3) ((((p5.toUInt32 >>> ((16 : Int32) &&& 31).toUInt32).toInt32).toInt8.toInt32).toInt8.toInt32)) (4) ((((p5.toUInt32 >>> ((8 : Int32) &&& 31).toUInt32).toInt32).toInt8.toInt32).toInt8.toInt32)) (5) ((p5.toInt8.toInt32).toInt8.toInt32)) h53 n0 z_53 (by decide) rfl hA53 A_b44_53 (by decide) (by decide) ((hg53 2 (by omega)).trans (hv52.trans (own_24 _)))) (by decide) (by decide) (by decide) (by decide) e55 (g := (mkF m 245 #[.val (.int p1), .val (.int p2), .val (.int p3), .val (.int p4), .val (.int p5), .val (.int (Int32.ofNat n)), .val (.int (0 : Int32)), .val (.int (1 : Int32)), .val (.int (1 : Int32)), .val (.ref b42), .val (.ref b44), .val (.int (6 : Int32)), .val (.ref r53)] [(.int (2 : Int32)), (.int (6 : Int32)), (.ref b44), (.ref r53)])) rfl (by rw [hml]; rfl) (lenOf pd_0_2 rfl) rfl (by show 2 * 0 + _ ≤ _; exact Nat.le_of_eq rfl) (hb hby at_245)
            refine Goes.step st56 ?_
            show Goes p e below s _ _ _ T56 (mkF m 248 #[.val (.int p1), .val (.int p2), .val (.int p3), .val (.int p4), .val (.int p5), .val (.int (Int32.ofNat n)), .val (.int (0 : Int32)), .val (.int (1 : Int32)), .val (.int (1 : Int32)), .val (.ref b42), .val (.ref b44), .val (.int (6 : Int32)), .val (.ref r53)] [(.int (1 : Int32))])
            refine Goes.step (fun _ k => XS.ifNo X56.here hx rfl (hb hby at_248) rfl ((if0 _ _).trans (feq (by decide : ¬ ((1 : Int32) = (0 : Int32)))).1) k) ?_
            show Goes p e below s _ _ _ T56 (mkF m 251 #[.val (.int p1), .val (.int p2), .val (.int p3), .val (.int p4), .val (.int p5), .val (.int (Int32.ofNat n)), .val (.int (0 : Int32)), .val (.int (1 : Int32)), .val (.int (1 : Int32)), .val (.ref b42), .val (.ref b44), .val (.int (6 : Int32)), .val (.ref r53)] [])
            refine Goes.step (fun _ k => XS.aload X56.here hx rfl (hb hby at_251) rfl rfl k) ?_
            show Goes p e below s _ _ _ T56 (mkF m 253 #[.val (.int p1), .val (.int p2), .val (.int p3), .val (.int p4), .val (.int p5), .val (.int (Int32.ofNat n)), .val (.int (0 : Int32)), .val (.int (1 : Int32)), .val (.int (1 : Int32)), .val (.ref b42), .val (.ref b44), .val (.int (6 : Int32)), .val (.ref r53)] [(.ref r53)])
            refine Goes.step (fun _ k => XS.aload X56.here hx rfl (hb hby at_253) rfl rfl k) ?_
            show Goes p e below s _ _ _ T56 (mkF m 255 #[.val (.int p1), .val (.int p2), .val (.int p3), .val (.int p4), .val (.int p5), .val (.int (Int32.ofNat n)), .val (.int (0 : Int32)), .val (.int (1 : Int32)), .val (.int (1 : Int32)), .val (.ref b42), .val (.ref b44), .val (.int (6 : Int32)), .val (.ref r53)] [(.ref b44), (.ref r53)])
            refine Goes.step (fun _ k => XS.iload X56.here hx rfl (hb hby at_255) rfl k) ?_
            show Goes p e below s _ _ _ T56 (mkF m 257 #[.val (.int p1), .val (.int p2), .val (.int p3), .val (.int p4), .val (.int p5), .val (.int (Int32.ofNat n)), .val (.int (0 : Int32)), .val (.int (1 : Int32)), .val (.int (1 : Int32)), .val (.ref b42), .val (.ref b44), .val (.int (6 : Int32)), .val (.ref r53)] [(.int (6 : Int32)), (.ref b44), (.ref r53)])
            refine Goes.step (fun _ k => XS.iconst X56.here hx rfl (hb hby at_257) k) ?_
            show Goes p e below s _ _ _ T56 (mkF m 258 #[.val (.int p1), .val (.int p2), .val (.int p3), .val (.int p4), .val (.int p5), .val (.int (Int32.ofNat n)), .val (.int (0 : Int32)), .val (.int (1 : Int32)), .val (.int (1 : Int32)), .val (.ref b42), .val (.ref b44), .val (.int (6 : Int32)), .val (.ref r53)] [(.int (3 : Int32)), (.int (6 : Int32)), (.ref b44), (.ref r53)])
            obtain ⟨T57, X57, e57, st57⟩ := callPure X56 hx hZ (y := (⟨"com/example/proxysmith/proxysmith/BytesToByteArrayPinLaw", "same", "([B[BII)Z"⟩ : MethodName)) hown (hw _ (List.mem_of_getElem? (i := 48) rfl)) (hw _ (List.mem_of_getElem? (i := 49) rfl)) (hw _ (List.mem_of_getElem? (i := 50) rfl)) (hw _ (List.mem_of_getElem? (i := 51) rfl)) (by decide) (W := 0) (argsL := [(.ref r53), (.ref b44), (.int (6 : Int32)), (.int (3 : Int32))]) (rest := []) (r := (.int (1 : Int32))) (fun _ _ _ q => q) (rm10b l Z a0 hw [] r53 b44 (6 : Int32) (3 : Int32) 3 6 7 g53 (updI (updI (updI (updI (updI (updI (fun _ => 0) (0) ((((p4.toUInt32 >>> ((8 : Int32) &&& 31).toUInt32).toInt32).toInt8.toInt32).toInt8.toInt32)) (1) ((p4.toInt8.toInt32).toInt8.toInt32)) (2) ((((p5.toUInt32 >>> ((24 : Int32) &&& 31).toUInt32).toInt32).toInt8.toInt32).toInt8.toInt32)) (3) ((((p5.toUInt32 >>> ((16 : Int32) &&& 31).toUInt32).toInt32).toInt8.toInt32).toInt8.toInt32)) (4) ((((p5.toUInt32 >>> ((8 : Int32) &&& 31).toUInt32).toInt32).toInt8.toInt32).toInt8.toInt32)) (5) ((p5.toInt8.toInt32).toInt8.toInt32)) h53 n0 z_53 (by decide) rfl hA53 A_b44_53 (by decide) (by decide) ((hg53 3 (by omega)).trans (hu52.trans (own_BB _).symm))) (by decide) (by decide) (by decide) (by decide) e56 (g := (mkF m 258 #[.val (.int p1), .val (.int p2), .val (.int p3), .val (.int p4), .val (.int p5), .val (.int (Int32.ofNat n)), .val (.int (0 : Int32)), .val (.int (1 : Int32)), .val (.int (1 : Int32)), .val (.ref b42), .val (.ref b44), .val (.int (6 : Int32)), .val (.ref r53)] [(.int (3 : Int32)), (.int (6 : Int32)), (.ref b44), (.ref r53)])) rfl (by rw [hml]; rfl) (lenOf pd_0_2 rfl) rfl (by show 2 * 0 + _ ≤ _; exact Nat.le_of_eq rfl) (hb hby at_258)
            refine Goes.step st57 ?_
            show Goes p e below s _ _ _ T57 (mkF m 261 #[.val (.int p1), .val (.int p2), .val (.int p3), .val (.int p4), .val (.int p5), .val (.int (Int32.ofNat n)), .val (.int (0 : Int32)), .val (.int (1 : Int32)), .val (.int (1 : Int32)), .val (.ref b42), .val (.ref b44), .val (.int (6 : Int32)), .val (.ref r53)] [(.int (1 : Int32))])
            refine Goes.step (fun _ k => XS.ifNo X57.here hx rfl (hb hby at_261) rfl ((if0 _ _).trans (feq (by decide : ¬ ((1 : Int32) = (0 : Int32)))).1) k) ?_
            show Goes p e below s _ _ _ T57 (mkF m 264 #[.val (.int p1), .val (.int p2), .val (.int p3), .val (.int p4), .val (.int p5), .val (.int (Int32.ofNat n)), .val (.int (0 : Int32)), .val (.int (1 : Int32)), .val (.int (1 : Int32)), .val (.ref b42), .val (.ref b44), .val (.int (6 : Int32)), .val (.ref r53)] [])
            refine Goes.step (fun _ k => XS.aload X57.here hx rfl (hb hby at_264) rfl rfl k) ?_
            show Goes p e below s _ _ _ T57 (mkF m 266 #[.val (.int p1), .val (.int p2), .val (.int p3), .val (.int p4), .val (.int p5), .val (.int (Int32.ofNat n)), .val (.int (0 : Int32)), .val (.int (1 : Int32)), .val (.int (1 : Int32)), .val (.ref b42), .val (.ref b44), .val (.int (6 : Int32)), .val (.ref r53)] [(.ref r53)])
            refine Goes.step (fun _ k => XS.aload X57.here hx rfl (hb hby at_266) rfl rfl k) ?_
            show Goes p e below s _ _ _ T57 (mkF m 268 #[.val (.int p1), .val (.int p2), .val (.int p3), .val (.int p4), .val (.int p5), .val (.int (Int32.ofNat n)), .val (.int (0 : Int32)), .val (.int (1 : Int32)), .val (.int (1 : Int32)), .val (.ref b42), .val (.ref b44), .val (.int (6 : Int32)), .val (.ref r53)] [(.ref b44), (.ref r53)])
            refine Goes.step (fun _ k => XS.iload X57.here hx rfl (hb hby at_268) rfl k) ?_
            show Goes p e below s _ _ _ T57 (mkF m 270 #[.val (.int p1), .val (.int p2), .val (.int p3), .val (.int p4), .val (.int p5), .val (.int (Int32.ofNat n)), .val (.int (0 : Int32)), .val (.int (1 : Int32)), .val (.int (1 : Int32)), .val (.ref b42), .val (.ref b44), .val (.int (6 : Int32)), .val (.ref r53)] [(.int (6 : Int32)), (.ref b44), (.ref r53)])
            refine Goes.step (fun _ k => XS.iconst X57.here hx rfl (hb hby at_270) k) ?_
            show Goes p e below s _ _ _ T57 (mkF m 271 #[.val (.int p1), .val (.int p2), .val (.int p3), .val (.int p4), .val (.int p5), .val (.int (Int32.ofNat n)), .val (.int (0 : Int32)), .val (.int (1 : Int32)), .val (.int (1 : Int32)), .val (.ref b42), .val (.ref b44), .val (.int (6 : Int32)), .val (.ref r53)] [(.int (4 : Int32)), (.int (6 : Int32)), (.ref b44), (.ref r53)])
            obtain ⟨T58, X58, e58, st58⟩ := callPure X57 hx hZ (y := (⟨"com/example/proxysmith/proxysmith/BytesToByteArrayPinLaw", "same", "([B[BII)Z"⟩ : MethodName)) hown (hw _ (List.mem_of_getElem? (i := 48) rfl)) (hw _ (List.mem_of_getElem? (i := 49) rfl)) (hw _ (List.mem_of_getElem? (i := 50) rfl)) (hw _ (List.mem_of_getElem? (i := 51) rfl)) (by decide) (W := 0) (argsL := [(.ref r53), (.ref b44), (.int (6 : Int32)), (.int (4 : Int32))]) (rest := []) (r := (.int (1 : Int32))) (fun _ _ _ q => q) (rm10b l Z a0 hw [] r53 b44 (6 : Int32) (4 : Int32) 4 6 7 g53 (updI (updI (updI (updI (updI (updI (fun _ => 0) (0) ((((p4.toUInt32 >>> ((8 : Int32) &&& 31).toUInt32).toInt32).toInt8.toInt32).toInt8.toInt32)) (1) ((p4.toInt8.toInt32).toInt8.toInt32)) (2) ((((p5.toUInt32 >>> ((24 : Int32) &&& 31).toUInt32).toInt32).toInt8.toInt32).toInt8.toInt32)) (3) ((((p5.toUInt32 >>> ((16 : Int32) &&& 31).toUInt32).toInt32).toInt8.toInt32).toInt8.toInt32)) (4) ((((p5.toUInt32 >>> ((8 : Int32) &&& 31).toUInt32).toInt32).toInt8.toInt32).toInt8.toInt32)) (5) ((p5.toInt8.toInt32).toInt8.toInt32)) h53 n0 z_53 (by decide) rfl hA53 A_b44_53 (by decide) (by decide) ((hg53 4 (by omega)).trans (hx52.trans (own_BB _).symm))) (by decide) (by decide) (by decide) (by decide) e57 (g := (mkF m 271 #[.val (.int p1), .val (.int p2), .val (.int p3), .val (.int p4), .val (.int p5), .val (.int (Int32.ofNat n)), .val (.int (0 : Int32)), .val (.int (1 : Int32)), .val (.int (1 : Int32)), .val (.ref b42), .val (.ref b44), .val (.int (6 : Int32)), .val (.ref r53)] [(.int (4 : Int32)), (.int (6 : Int32)), (.ref b44), (.ref r53)])) rfl (by rw [hml]; rfl) (lenOf pd_0_2 rfl) rfl (by show 2 * 0 + _ ≤ _; exact Nat.le_of_eq rfl) (hb hby at_271)
            refine Goes.step st58 ?_
            show Goes p e below s _ _ _ T58 (mkF m 274 #[.val (.int p1), .val (.int p2), .val (.int p3), .val (.int p4), .val (.int p5), .val (.int (Int32.ofNat n)), .val (.int (0 : Int32)), .val (.int (1 : Int32)), .val (.int (1 : Int32)), .val (.ref b42), .val (.ref b44), .val (.int (6 : Int32)), .val (.ref r53)] [(.int (1 : Int32))])
            refine Goes.step (fun _ k => XS.ifNo X58.here hx rfl (hb hby at_274) rfl ((if0 _ _).trans (feq (by decide : ¬ ((1 : Int32) = (0 : Int32)))).1) k) ?_
            show Goes p e below s _ _ _ T58 (mkF m 277 #[.val (.int p1), .val (.int p2), .val (.int p3), .val (.int p4), .val (.int p5), .val (.int (Int32.ofNat n)), .val (.int (0 : Int32)), .val (.int (1 : Int32)), .val (.int (1 : Int32)), .val (.ref b42), .val (.ref b44), .val (.int (6 : Int32)), .val (.ref r53)] [])
            refine Goes.step (fun _ k => XS.aload X58.here hx rfl (hb hby at_277) rfl rfl k) ?_
            show Goes p e below s _ _ _ T58 (mkF m 279 #[.val (.int p1), .val (.int p2), .val (.int p3), .val (.int p4), .val (.int p5), .val (.int (Int32.ofNat n)), .val (.int (0 : Int32)), .val (.int (1 : Int32)), .val (.int (1 : Int32)), .val (.ref b42), .val (.ref b44), .val (.int (6 : Int32)), .val (.ref r53)] [(.ref r53)])
            refine Goes.step (fun _ k => XS.aload X58.here hx rfl (hb hby at_279) rfl rfl k) ?_
            show Goes p e below s _ _ _ T58 (mkF m 281 #[.val (.int p1), .val (.int p2), .val (.int p3), .val (.int p4), .val (.int p5), .val (.int (Int32.ofNat n)), .val (.int (0 : Int32)), .val (.int (1 : Int32)), .val (.int (1 : Int32)), .val (.ref b42), .val (.ref b44), .val (.int (6 : Int32)), .val (.ref r53)] [(.ref b44), (.ref r53)])
            refine Goes.step (fun _ k => XS.iload X58.here hx rfl (hb hby at_281) rfl k) ?_
            show Goes p e below s _ _ _ T58 (mkF m 283 #[.val (.int p1), .val (.int p2), .val (.int p3), .val (.int p4), .val (.int p5), .val (.int (Int32.ofNat n)), .val (.int (0 : Int32)), .val (.int (1 : Int32)), .val (.int (1 : Int32)), .val (.ref b42), .val (.ref b44), .val (.int (6 : Int32)), .val (.ref r53)] [(.int (6 : Int32)), (.ref b44), (.ref r53)])
            refine Goes.step (fun _ k => XS.iconst X58.here hx rfl (hb hby at_283) k) ?_
            show Goes p e below s _ _ _ T58 (mkF m 284 #[.val (.int p1), .val (.int p2), .val (.int p3), .val (.int p4), .val (.int p5), .val (.int (Int32.ofNat n)), .val (.int (0 : Int32)), .val (.int (1 : Int32)), .val (.int (1 : Int32)), .val (.ref b42), .val (.ref b44), .val (.int (6 : Int32)), .val (.ref r53)] [(.int (5 : Int32)), (.int (6 : Int32)), (.ref b44), (.ref r53)])
            obtain ⟨T59, X59, e59, st59⟩ := callPure X58 hx hZ (y := (⟨"com/example/proxysmith/proxysmith/BytesToByteArrayPinLaw", "same", "([B[BII)Z"⟩ : MethodName)) hown (hw _ (List.mem_of_getElem? (i := 48) rfl)) (hw _ (List.mem_of_getElem? (i := 49) rfl)) (hw _ (List.mem_of_getElem? (i := 50) rfl)) (hw _ (List.mem_of_getElem? (i := 51) rfl)) (by decide) (W := 0) (argsL := [(.ref r53), (.ref b44), (.int (6 : Int32)), (.int (5 : Int32))]) (rest := []) (r := (.int (1 : Int32))) (fun _ _ _ q => q) (rm10b l Z a0 hw [] r53 b44 (6 : Int32) (5 : Int32) 5 6 7 g53 (updI (updI (updI (updI (updI (updI (fun _ => 0) (0) ((((p4.toUInt32 >>> ((8 : Int32) &&& 31).toUInt32).toInt32).toInt8.toInt32).toInt8.toInt32)) (1) ((p4.toInt8.toInt32).toInt8.toInt32)) (2) ((((p5.toUInt32 >>> ((24 : Int32) &&& 31).toUInt32).toInt32).toInt8.toInt32).toInt8.toInt32)) (3) ((((p5.toUInt32 >>> ((16 : Int32) &&& 31).toUInt32).toInt32).toInt8.toInt32).toInt8.toInt32)) (4) ((((p5.toUInt32 >>> ((8 : Int32) &&& 31).toUInt32).toInt32).toInt8.toInt32).toInt8.toInt32)) (5) ((p5.toInt8.toInt32).toInt8.toInt32)) h53 n0 z_53 (by decide) rfl hA53 A_b44_53 (by decide) (by decide) ((hg53 5 (by omega)).trans (hy52.trans (own_BB _).symm))) (by decide) (by decide) (by decide) (by decide) e58 (g := (mkF m 284 #[.val (.int p1), .val (.int p2), .val (.int p3), .val (.int p4), .val (.int p5), .val (.int (Int32.ofNat n)), .val (.int (0 : Int32)), .val (.int (1 : Int32)), .val (.int (1 : Int32)), .val (.ref b42), .val (.ref b44), .val (.int (6 : Int32)), .val (.ref r53)] [(.int (5 : Int32)), (.int (6 : Int32)), (.ref b44), (.ref r53)])) rfl (by rw [hml]; rfl) (lenOf pd_0_2 rfl) rfl (by show 2 * 0 + _ ≤ _; exact Nat.le_of_eq rfl) (hb hby at_284)
            refine Goes.step st59 ?_
            show Goes p e below s _ _ _ T59 (mkF m 287 #[.val (.int p1), .val (.int p2), .val (.int p3), .val (.int p4), .val (.int p5), .val (.int (Int32.ofNat n)), .val (.int (0 : Int32)), .val (.int (1 : Int32)), .val (.int (1 : Int32)), .val (.ref b42), .val (.ref b44), .val (.int (6 : Int32)), .val (.ref r53)] [(.int (1 : Int32))])
            refine Goes.step (fun _ k => XS.ifNo X59.here hx rfl (hb hby at_287) rfl ((if0 _ _).trans (feq (by decide : ¬ ((1 : Int32) = (0 : Int32)))).1) k) ?_
            show Goes p e below s _ _ _ T59 (mkF m 290 #[.val (.int p1), .val (.int p2), .val (.int p3), .val (.int p4), .val (.int p5), .val (.int (Int32.ofNat n)), .val (.int (0 : Int32)), .val (.int (1 : Int32)), .val (.int (1 : Int32)), .val (.ref b42), .val (.ref b44), .val (.int (6 : Int32)), .val (.ref r53)] [])
            refine Goes.step (fun _ k => XS.aload X59.here hx rfl (hb hby at_290) rfl rfl k) ?_
            show Goes p e below s _ _ _ T59 (mkF m 292 #[.val (.int p1), .val (.int p2), .val (.int p3), .val (.int p4), .val (.int p5), .val (.int (Int32.ofNat n)), .val (.int (0 : Int32)), .val (.int (1 : Int32)), .val (.int (1 : Int32)), .val (.ref b42), .val (.ref b44), .val (.int (6 : Int32)), .val (.ref r53)] [(.ref r53)])
            refine Goes.step (fun _ k => XS.aload X59.here hx rfl (hb hby at_292) rfl rfl k) ?_
            show Goes p e below s _ _ _ T59 (mkF m 294 #[.val (.int p1), .val (.int p2), .val (.int p3), .val (.int p4), .val (.int p5), .val (.int (Int32.ofNat n)), .val (.int (0 : Int32)), .val (.int (1 : Int32)), .val (.int (1 : Int32)), .val (.ref b42), .val (.ref b44), .val (.int (6 : Int32)), .val (.ref r53)] [(.ref b44), (.ref r53)])
            refine Goes.step (fun _ k => XS.iload X59.here hx rfl (hb hby at_294) rfl k) ?_
            show Goes p e below s _ _ _ T59 (mkF m 296 #[.val (.int p1), .val (.int p2), .val (.int p3), .val (.int p4), .val (.int p5), .val (.int (Int32.ofNat n)), .val (.int (0 : Int32)), .val (.int (1 : Int32)), .val (.int (1 : Int32)), .val (.ref b42), .val (.ref b44), .val (.int (6 : Int32)), .val (.ref r53)] [(.int (6 : Int32)), (.ref b44), (.ref r53)])
            refine Goes.step (fun _ k => XS.bipush X59.here hx rfl (hb hby at_296) k) ?_
            show Goes p e below s _ _ _ T59 (mkF m 298 #[.val (.int p1), .val (.int p2), .val (.int p3), .val (.int p4), .val (.int p5), .val (.int (Int32.ofNat n)), .val (.int (0 : Int32)), .val (.int (1 : Int32)), .val (.int (1 : Int32)), .val (.ref b42), .val (.ref b44), .val (.int (6 : Int32)), .val (.ref r53)] [(.int (6 : Int32)), (.int (6 : Int32)), (.ref b44), (.ref r53)])
            obtain ⟨T60, X60, e60, st60⟩ := callPure X59 hx hZ (y := (⟨"com/example/proxysmith/proxysmith/BytesToByteArrayPinLaw", "same", "([B[BII)Z"⟩ : MethodName)) hown (hw _ (List.mem_of_getElem? (i := 48) rfl)) (hw _ (List.mem_of_getElem? (i := 49) rfl)) (hw _ (List.mem_of_getElem? (i := 50) rfl)) (hw _ (List.mem_of_getElem? (i := 51) rfl)) (by decide) (W := 0) (argsL := [(.ref r53), (.ref b44), (.int (6 : Int32)), (.int (6 : Int32))]) (rest := []) (r := (.int (1 : Int32))) (fun _ _ _ q => q) (rm10a l Z a0 hw [] r53 b44 (6 : Int32) (6 : Int32) h53 n0 z_53 (by decide)) (by decide) (by decide) (by decide) (by decide) e59 (g := (mkF m 298 #[.val (.int p1), .val (.int p2), .val (.int p3), .val (.int p4), .val (.int p5), .val (.int (Int32.ofNat n)), .val (.int (0 : Int32)), .val (.int (1 : Int32)), .val (.int (1 : Int32)), .val (.ref b42), .val (.ref b44), .val (.int (6 : Int32)), .val (.ref r53)] [(.int (6 : Int32)), (.int (6 : Int32)), (.ref b44), (.ref r53)])) rfl (by rw [hml]; rfl) (lenOf pd_0_2 rfl) rfl (by show 2 * 0 + _ ≤ _; exact Nat.le_of_eq rfl) (hb hby at_298)
            refine Goes.step st60 ?_
            show Goes p e below s _ _ _ T60 (mkF m 301 #[.val (.int p1), .val (.int p2), .val (.int p3), .val (.int p4), .val (.int p5), .val (.int (Int32.ofNat n)), .val (.int (0 : Int32)), .val (.int (1 : Int32)), .val (.int (1 : Int32)), .val (.ref b42), .val (.ref b44), .val (.int (6 : Int32)), .val (.ref r53)] [(.int (1 : Int32))])
            refine Goes.step (fun _ k => XS.ifNo X60.here hx rfl (hb hby at_301) rfl ((if0 _ _).trans (feq (by decide : ¬ ((1 : Int32) = (0 : Int32)))).1) k) ?_
            show Goes p e below s _ _ _ T60 (mkF m 304 #[.val (.int p1), .val (.int p2), .val (.int p3), .val (.int p4), .val (.int p5), .val (.int (Int32.ofNat n)), .val (.int (0 : Int32)), .val (.int (1 : Int32)), .val (.int (1 : Int32)), .val (.ref b42), .val (.ref b44), .val (.int (6 : Int32)), .val (.ref r53)] [])
            refine Goes.step (fun _ k => XS.iconst X60.here hx rfl (hb hby at_304) k) ?_
            show Goes p e below s _ _ _ T60 (mkF m 305 #[.val (.int p1), .val (.int p2), .val (.int p3), .val (.int p4), .val (.int p5), .val (.int (Int32.ofNat n)), .val (.int (0 : Int32)), .val (.int (1 : Int32)), .val (.int (1 : Int32)), .val (.ref b42), .val (.ref b44), .val (.int (6 : Int32)), .val (.ref r53)] [(.int (1 : Int32))])
            refine Goes.step (fun _ k => XS.goto X60.here hx rfl (pc0 := 305) (pc' := 309) rfl (hb hby at_305) (by decide) (by decide) k) ?_
            show Goes p e below s _ _ _ T60 (mkF m 309 #[.val (.int p1), .val (.int p2), .val (.int p3), .val (.int p4), .val (.int p5), .val (.int (Int32.ofNat n)), .val (.int (0 : Int32)), .val (.int (1 : Int32)), .val (.int (1 : Int32)), .val (.ref b42), .val (.ref b44), .val (.int (6 : Int32)), .val (.ref r53)] [(.int (1 : Int32))])
            exact Goes.outN X60 hx hlk (t := .boolean) Bd.returns (by simp) (hb hby at_309) ⟨rfl, N_53⟩ (by decide) (by decide)
  · refine Goes.step (fun _ k => XS.ifNo X0.here hx rfl (hb hby at_9) rfl ((if0 _ _).trans (feq hc9).1) k) ?_
    show Goes p e below s _ _ _ s₁ (mkF m 12 #[.val (.int p1), .val (.int p2), .val (.int p3), .val (.int p4), .val (.int p5), .val (.int (Int32.ofNat n)), .unset, .unset, .unset, .unset, .unset, .unset, .unset] [])
    refine Goes.step (fun _ k => XS.iconst X0.here hx rfl (hb hby at_12) k) ?_
    show Goes p e below s _ _ _ s₁ (mkF m 13 #[.val (.int p1), .val (.int p2), .val (.int p3), .val (.int p4), .val (.int p5), .val (.int (Int32.ofNat n)), .unset, .unset, .unset, .unset, .unset, .unset, .unset] [(.int (1 : Int32))])
    refine Goes.step (fun _ k => XS.goto X0.here hx rfl (pc0 := 13) (pc' := 17) rfl (hb hby at_13) (by decide) (by decide) k) ?_
    show Goes p e below s _ _ _ s₁ (mkF m 17 #[.val (.int p1), .val (.int p2), .val (.int p3), .val (.int p4), .val (.int p5), .val (.int (Int32.ofNat n)), .unset, .unset, .unset, .unset, .unset, .unset, .unset] [(.int (1 : Int32))])
    refine Goes.step (fun _ k => XS.istore X0.here hx rfl (hb hby at_17) rfl (l' := #[.val (.int p1), .val (.int p2), .val (.int p3), .val (.int p4), .val (.int p5), .val (.int (Int32.ofNat n)), .val (.int (1 : Int32)), .unset, .unset, .unset, .unset, .unset, .unset]) rfl k) ?_
    show Goes p e below s _ _ _ s₁ (mkF m 19 #[.val (.int p1), .val (.int p2), .val (.int p3), .val (.int p4), .val (.int p5), .val (.int (Int32.ofNat n)), .val (.int (1 : Int32)), .unset, .unset, .unset, .unset, .unset, .unset] [])
    refine Goes.step (fun _ k => XS.iloadN X0.here hx rfl (hb hby at_19) rfl k) ?_
    show Goes p e below s _ _ _ s₁ (mkF m 20 #[.val (.int p1), .val (.int p2), .val (.int p3), .val (.int p4), .val (.int p5), .val (.int (Int32.ofNat n)), .val (.int (1 : Int32)), .unset, .unset, .unset, .unset, .unset, .unset] [(.int p2)])
    refine Goes.step (fun _ k => XS.iconst X0.here hx rfl (hb hby at_20) k) ?_
    show Goes p e below s _ _ _ s₁ (mkF m 21 #[.val (.int p1), .val (.int p2), .val (.int p3), .val (.int p4), .val (.int p5), .val (.int (Int32.ofNat n)), .val (.int (1 : Int32)), .unset, .unset, .unset, .unset, .unset, .unset] [(.int (2 : Int32)), (.int p2)])
    refine Goes.step (fun _ k => XS.iand X0.here hx rfl (hb hby at_21) rfl k) ?_
    show Goes p e below s _ _ _ s₁ (mkF m 22 #[.val (.int p1), .val (.int p2), .val (.int p3), .val (.int p4), .val (.int p5), .val (.int (Int32.ofNat n)), .val (.int (1 : Int32)), .unset, .unset, .unset, .unset, .unset, .unset] [(.int (p2 &&& (2 : Int32)))])
    by_cases hc22 : (p2 &&& (2 : Int32)) = (0 : Int32)
    · refine Goes.step (fun _ k => XS.ifYes X0.here hx rfl (pc0 := 22) (pc' := 29) rfl (hb hby at_22) rfl ((if0 _ _).trans (teq hc22).1) (by decide) (by decide) k) ?_
      show Goes p e below s _ _ _ s₁ (mkF m 29 #[.val (.int p1), .val (.int p2), .val (.int p3), .val (.int p4), .val (.int p5), .val (.int (Int32.ofNat n)), .val (.int (1 : Int32)), .unset, .unset, .unset, .unset, .unset, .unset] [])
      refine Goes.step (fun _ k => XS.iconst X0.here hx rfl (hb hby at_29) k) ?_
      show Goes p e below s _ _ _ s₁ (mkF m 30 #[.val (.int p1), .val (.int p2), .val (.int p3), .val (.int p4), .val (.int p5), .val (.int (Int32.ofNat n)), .val (.int (1 : Int32)), .unset, .unset, .unset, .unset, .unset, .unset] [(.int (0 : Int32))])
      refine Goes.step (fun _ k => XS.istore X0.here hx rfl (hb hby at_30) rfl (l' := #[.val (.int p1), .val (.int p2), .val (.int p3), .val (.int p4), .val (.int p5), .val (.int (Int32.ofNat n)), .val (.int (1 : Int32)), .val (.int (0 : Int32)), .unset, .unset, .unset, .unset, .unset]) rfl k) ?_
      show Goes p e below s _ _ _ s₁ (mkF m 32 #[.val (.int p1), .val (.int p2), .val (.int p3), .val (.int p4), .val (.int p5), .val (.int (Int32.ofNat n)), .val (.int (1 : Int32)), .val (.int (0 : Int32)), .unset, .unset, .unset, .unset, .unset] [])
      refine Goes.step (fun _ k => XS.iloadN X0.here hx rfl (hb hby at_32) rfl k) ?_
      show Goes p e below s _ _ _ s₁ (mkF m 33 #[.val (.int p1), .val (.int p2), .val (.int p3), .val (.int p4), .val (.int p5), .val (.int (Int32.ofNat n)), .val (.int (1 : Int32)), .val (.int (0 : Int32)), .unset, .unset, .unset, .unset, .unset] [(.int p2)])
      refine Goes.step (fun _ k => XS.iconst X0.here hx rfl (hb hby at_33) k) ?_
      show Goes p e below s _ _ _ s₁ (mkF m 34 #[.val (.int p1), .val (.int p2), .val (.int p3), .val (.int p4), .val (.int p5), .val (.int (Int32.ofNat n)), .val (.int (1 : Int32)), .val (.int (0 : Int32)), .unset, .unset, .unset, .unset, .unset] [(.int (4 : Int32)), (.int p2)])
      refine Goes.step (fun _ k => XS.iand X0.here hx rfl (hb hby at_34) rfl k) ?_
      show Goes p e below s _ _ _ s₁ (mkF m 35 #[.val (.int p1), .val (.int p2), .val (.int p3), .val (.int p4), .val (.int p5), .val (.int (Int32.ofNat n)), .val (.int (1 : Int32)), .val (.int (0 : Int32)), .unset, .unset, .unset, .unset, .unset] [(.int (p2 &&& (4 : Int32)))])
      by_cases hc35 : (p2 &&& (4 : Int32)) = (0 : Int32)
      · refine Goes.step (fun _ k => XS.ifYes X0.here hx rfl (pc0 := 35) (pc' := 42) rfl (hb hby at_35) rfl ((if0 _ _).trans (teq hc35).1) (by decide) (by decide) k) ?_
        show Goes p e below s _ _ _ s₁ (mkF m 42 #[.val (.int p1), .val (.int p2), .val (.int p3), .val (.int p4), .val (.int p5), .val (.int (Int32.ofNat n)), .val (.int (1 : Int32)), .val (.int (0 : Int32)), .unset, .unset, .unset, .unset, .unset] [])
        refine Goes.step (fun _ k => XS.iconst X0.here hx rfl (hb hby at_42) k) ?_
        show Goes p e below s _ _ _ s₁ (mkF m 43 #[.val (.int p1), .val (.int p2), .val (.int p3), .val (.int p4), .val (.int p5), .val (.int (Int32.ofNat n)), .val (.int (1 : Int32)), .val (.int (0 : Int32)), .unset, .unset, .unset, .unset, .unset] [(.int (0 : Int32))])
        refine Goes.step (fun _ k => XS.istore X0.here hx rfl (hb hby at_43) rfl (l' := #[.val (.int p1), .val (.int p2), .val (.int p3), .val (.int p4), .val (.int p5), .val (.int (Int32.ofNat n)), .val (.int (1 : Int32)), .val (.int (0 : Int32)), .val (.int (0 : Int32)), .unset, .unset, .unset, .unset]) rfl k) ?_
        show Goes p e below s _ _ _ s₁ (mkF m 45 #[.val (.int p1), .val (.int p2), .val (.int p3), .val (.int p4), .val (.int p5), .val (.int (Int32.ofNat n)), .val (.int (1 : Int32)), .val (.int (0 : Int32)), .val (.int (0 : Int32)), .unset, .unset, .unset, .unset] [])
        obtain ⟨T61, h61, X61, e61, E61, A61, D61, -, st61⟩ := newO X0 hx hZ hown (hw _ (List.mem_of_getElem? (i := 0) rfl)) (hw _ (List.mem_of_getElem? (i := 1) rfl)) (hw _ (List.mem_of_getElem? (i := 2) rfl)) e0 (g := (mkF m 45 #[.val (.int p1), .val (.int p2), .val (.int p3), .val (.int p4), .val (.int p5), .val (.int (Int32.ofNat n)), .val (.int (1 : Int32)), .val (.int (0 : Int32)), .val (.int (0 : Int32)), .unset, .unset, .unset, .unset] [])) rfl (hb hby at_45) (by decide) (by decide)
        obtain ⟨b61, g_61⟩ : ∃ z, z = h0.size := ⟨_, rfl⟩
        rw [← g_61] at A61 D61 st61
        refine Goes.step st61 ?_
        have ge_b61 : n0 ≤ b61 := by rw [g_61]; exact Z0
        have sz_b61 : h0.size ≤ b61 := by rw [g_61]; exact K0.1
        have z_61 : n0 ≤ h61.size := Nat.le_trans Z0 E61.1
        have K_61 : Keep h0 h61 [] := K0.ext E61
        have E_b61_61 : Exa Z h61 b61 "com/example/proxysmith/proxysmith/ClassFileWriter$Bytes" := A61
        have F_b61_bytes_61 : Fld Z h61 b61 "com/example/proxysmith/proxysmith/ClassFileWriter$Bytes" "bytes" "[B" .null := D61 (Or.inl (hw _ (List.mem_of_getElem? (i := 11) rfl))) (ty := (.array .byte)) (by decide)
        have F_b61_size_61 : Fld Z h61 b61 "com/example/proxysmith/proxysmith/ClassFileWriter$Bytes" "size" "I" (.int (0 : Int32)) := D61 (Or.inl (hw _ (List.mem_of_getElem? (i := 22) rfl))) (ty := .int) (by decide)
        show Goes p e below s _ _ _ T61 (mkF m 48 #[.val (.int p1), .val (.int p2), .val (.int p3), .val (.int p4), .val (.int p5), .val (.int (Int32.ofNat n)), .val (.int (1 : Int32)), .val (.int (0 : Int32)), .val (.int (0 : Int32)), .unset, .unset, .unset, .unset] [(.ref b61)])
        refine Goes.step (fun _ k => XS.dup X61.here hx rfl (hb hby at_48) rfl rfl k) ?_
        show Goes p e below s _ _ _ T61 (mkF m 49 #[.val (.int p1), .val (.int p2), .val (.int p3), .val (.int p4), .val (.int p5), .val (.int (Int32.ofNat n)), .val (.int (1 : Int32)), .val (.int (0 : Int32)), .val (.int (0 : Int32)), .unset, .unset, .unset, .unset] [(.ref b61), (.ref b61)])
        refine Goes.step (fun _ k => XS.iload X61.here hx rfl (hb hby at_49) rfl k) ?_
        show Goes p e below s _ _ _ T61 (mkF m 51 #[.val (.int p1), .val (.int p2), .val (.int p3), .val (.int p4), .val (.int p5), .val (.int (Int32.ofNat n)), .val (.int (1 : Int32)), .val (.int (0 : Int32)), .val (.int (0 : Int32)), .unset, .unset, .unset, .unset] [(.int (Int32.ofNat n)), (.ref b61), (.ref b61)])
        obtain ⟨v62, T62, h62, L62, X62, e62, Q62, st62⟩ := callXI X61 hx hZ (b := b61) (y := (⟨"com/example/proxysmith/proxysmith/ClassFileWriter$Bytes", "<init>", "(I)V"⟩ : MethodName)) hown rfl (hw _ (List.mem_of_getElem? (i := 3) rfl)) (hw _ (List.mem_of_getElem? (i := 4) rfl)) (hw _ (List.mem_of_getElem? (i := 5) rfl)) (hw _ (List.mem_of_getElem? (i := 2) rfl)) (by decide) (W := 1) (argsL := [(.int (Int32.ofNat n))]) (rest := [(.ref b61)]) (rm1 l Z a0 hw [] b61 n h61 n0 z_61 E_b61_61 F_b61_bytes_61 F_b61_size_61 ge_b61 hn) (by decide) (by decide) (by decide) (by decide) e61 (g := (mkF m 51 #[.val (.int p1), .val (.int p2), .val (.int p3), .val (.int p4), .val (.int p5), .val (.int (Int32.ofNat n)), .val (.int (1 : Int32)), .val (.int (0 : Int32)), .val (.int (0 : Int32)), .unset, .unset, .unset, .unset] [(.int (Int32.ofNat n)), (.ref b61), (.ref b61)])) rfl (by rw [hml]; rfl) (lenOf pd_0_0 rfl) rfl (by show 2 * 0 + _ ≤ _; exact Nat.le_of_eq rfl) (hb hby at_51)
        obtain ⟨b62, rfl, NQ62, KQ62, hE62, hFb62, hFs62, hA62, hab62, hg62, hb62⟩ := Q62
        refine Goes.step st62 ?_
        have E_b61_62 := E_b61_61.keep KQ62
        have z_62 : n0 ≤ h62.size := Nat.le_trans z_61 KQ62.1
        have K_62 : Keep h0 h62 [] := Keep.trans K_61 KQ62 (allS (Or.inr sz_b61) all0)
        have N_62 := Fr.app N0 NQ62
        show Goes p e below s _ _ _ T62 (mkF m 54 #[.val (.int p1), .val (.int p2), .val (.int p3), .val (.int p4), .val (.int p5), .val (.int (Int32.ofNat n)), .val (.int (1 : Int32)), .val (.int (0 : Int32)), .val (.int (0 : Int32)), .unset, .unset, .unset, .unset] [(.ref b61)])
        refine Goes.step (fun _ k => XS.astore X62.here hx rfl (hb hby at_54) rfl rfl (l' := #[.val (.int p1), .val (.int p2), .val (.int p3), .val (.int p4), .val (.int p5), .val (.int (Int32.ofNat n)), .val (.int (1 : Int32)), .val (.int (0 : Int32)), .val (.int (0 : Int32)), .val (.ref b61), .unset, .unset, .unset]) rfl k) ?_
        show Goes p e below s _ _ _ T62 (mkF m 56 #[.val (.int p1), .val (.int p2), .val (.int p3), .val (.int p4), .val (.int p5), .val (.int (Int32.ofNat n)), .val (.int (1 : Int32)), .val (.int (0 : Int32)), .val (.int (0 : Int32)), .val (.ref b61), .unset, .unset, .unset] [])
        refine Goes.step (fun _ k => XS.bipush X62.here hx rfl (hb hby at_56) k) ?_
        show Goes p e below s _ _ _ T62 (mkF m 58 #[.val (.int p1), .val (.int p2), .val (.int p3), .val (.int p4), .val (.int p5), .val (.int (Int32.ofNat n)), .val (.int (1 : Int32)), .val (.int (0 : Int32)), .val (.int (0 : Int32)), .val (.ref b61), .unset, .unset, .unset] [(.int (7 : Int32))])
        obtain ⟨T63, h63, X63, e63, E63, A63, st63⟩ := newI X62 hx hZ (hw _ (List.mem_of_getElem? (i := 9) rfl)) e62 (g := (mkF m 58 #[.val (.int p1), .val (.int p2), .val (.int p3), .val (.int p4), .val (.int p5), .val (.int (Int32.ofNat n)), .val (.int (1 : Int32)), .val (.int (0 : Int32)), .val (.int (0 : Int32)), .val (.ref b61), .unset, .unset, .unset] [(.int (7 : Int32))])) rfl (hb hby at_58) rfl (N := 7) rfl (cap := 7) (by decide) (by decide) (by decide) (by decide) rfl (by decide)
        obtain ⟨b63, g_63⟩ : ∃ z, z = h62.size := ⟨_, rfl⟩
        rw [← g_63] at A63 st63
        refine Goes.step st63 ?_
        have ne_b61_b63 : b61 ≠ b63 := Nat.ne_of_lt (by rw [g_63]; exact hE62.lt)
        have ne_b62_b63 : b62 ≠ b63 := Nat.ne_of_lt (by rw [g_63]; exact hA62.lt)
        have ge_b63 : n0 ≤ b63 := by rw [g_63]; exact z_62
        have sz_b63 : h0.size ≤ b63 := by rw [g_63]; exact K_62.1
        have hE62_63 := hE62.ext E63
        have hFb62_63 := hFb62.ext E63
        have hFs62_63 := hFs62.ext E63
        have hA62_63 := hA62.ext E63
        have z_63 : n0 ≤ h63.size := Nat.le_trans z_62 E63.1
        have K_63 : Keep h0 h63 [] := K_62.ext E63
        have A_b63_63 : Ari Z h63 b63 .byte (7) (fun _ => 0) := A63
        show Goes p e below s _ _ _ T63 (mkF m 60 #[.val (.int p1), .val (.int p2), .val (.int p3), .val (.int p4), .val (.int p5), .val (.int (Int32.ofNat n)), .val (.int (1 : Int32)), .val (.int (0 : Int32)), .val (.int (0 : Int32)), .val (.ref b61), .unset, .unset, .unset] [(.ref b63)])
        refine Goes.step (fun _ k => XS.astore X63.here hx rfl (hb hby at_60) rfl rfl (l' := #[.val (.int p1), .val (.int p2), .val (.int p3), .val (.int p4), .val (.int p5), .val (.int (Int32.ofNat n)), .val (.int (1 : Int32)), .val (.int (0 : Int32)), .val (.int (0 : Int32)), .val (.ref b61), .val (.ref b63), .unset, .unset]) rfl k) ?_
        show Goes p e below s _ _ _ T63 (mkF m 62 #[.val (.int p1), .val (.int p2), .val (.int p3), .val (.int p4), .val (.int p5), .val (.int (Int32.ofNat n)), .val (.int (1 : Int32)), .val (.int (0 : Int32)), .val (.int (0 : Int32)), .val (.ref b61), .val (.ref b63), .unset, .unset] [])
        refine Goes.step (fun _ k => XS.iconst X63.here hx rfl (hb hby at_62) k) ?_
        show Goes p e below s _ _ _ T63 (mkF m 63 #[.val (.int p1), .val (.int p2), .val (.int p3), .val (.int p4), .val (.int p5), .val (.int (Int32.ofNat n)), .val (.int (1 : Int32)), .val (.int (0 : Int32)), .val (.int (0 : Int32)), .val (.ref b61), .val (.ref b63), .unset, .unset] [(.int (0 : Int32))])
        refine Goes.step (fun _ k => XS.istore X63.here hx rfl (hb hby at_63) rfl (l' := #[.val (.int p1), .val (.int p2), .val (.int p3), .val (.int p4), .val (.int p5), .val (.int (Int32.ofNat n)), .val (.int (1 : Int32)), .val (.int (0 : Int32)), .val (.int (0 : Int32)), .val (.ref b61), .val (.ref b63), .val (.int (0 : Int32)), .unset]) rfl k) ?_
        show Goes p e below s _ _ _ T63 (mkF m 65 #[.val (.int p1), .val (.int p2), .val (.int p3), .val (.int p4), .val (.int p5), .val (.int (Int32.ofNat n)), .val (.int (1 : Int32)), .val (.int (0 : Int32)), .val (.int (0 : Int32)), .val (.ref b61), .val (.ref b63), .val (.int (0 : Int32)), .unset] [])
        refine Goes.step (fun _ k => XS.iload X63.here hx rfl (hb hby at_65) rfl k) ?_
        show Goes p e below s _ _ _ T63 (mkF m 67 #[.val (.int p1), .val (.int p2), .val (.int p3), .val (.int p4), .val (.int p5), .val (.int (Int32.ofNat n)), .val (.int (1 : Int32)), .val (.int (0 : Int32)), .val (.int (0 : Int32)), .val (.ref b61), .val (.ref b63), .val (.int (0 : Int32)), .unset] [(.int (1 : Int32))])
        refine Goes.step (fun _ k => XS.ifNo X63.here hx rfl (hb hby at_67) rfl ((if0 _ _).trans (feq (by decide : ¬ ((1 : Int32) = (0 : Int32)))).1) k) ?_
        show Goes p e below s _ _ _ T63 (mkF m 70 #[.val (.int p1), .val (.int p2), .val (.int p3), .val (.int p4), .val (.int p5), .val (.int (Int32.ofNat n)), .val (.int (1 : Int32)), .val (.int (0 : Int32)), .val (.int (0 : Int32)), .val (.ref b61), .val (.ref b63), .val (.int (0 : Int32)), .unset] [])
        refine Goes.step (fun _ k => XS.aload X63.here hx rfl (hb hby at_70) rfl rfl k) ?_
        show Goes p e below s _ _ _ T63 (mkF m 72 #[.val (.int p1), .val (.int p2), .val (.int p3), .val (.int p4), .val (.int p5), .val (.int (Int32.ofNat n)), .val (.int (1 : Int32)), .val (.int (0 : Int32)), .val (.int (0 : Int32)), .val (.ref b61), .val (.ref b63), .val (.int (0 : Int32)), .unset] [(.ref b63)])
        refine Goes.step (fun _ k => XS.iload X63.here hx rfl (hb hby at_72) rfl k) ?_
        show Goes p e below s _ _ _ T63 (mkF m 74 #[.val (.int p1), .val (.int p2), .val (.int p3), .val (.int p4), .val (.int p5), .val (.int (Int32.ofNat n)), .val (.int (1 : Int32)), .val (.int (0 : Int32)), .val (.int (0 : Int32)), .val (.ref b61), .val (.ref b63), .val (.int (0 : Int32)), .unset] [(.int (0 : Int32)), (.ref b63)])
        refine Goes.step (fun _ k => XS.iloadN X63.here hx rfl (hb hby at_74) rfl k) ?_
        show Goes p e below s _ _ _ T63 (mkF m 75 #[.val (.int p1), .val (.int p2), .val (.int p3), .val (.int p4), .val (.int p5), .val (.int (Int32.ofNat n)), .val (.int (1 : Int32)), .val (.int (0 : Int32)), .val (.int (0 : Int32)), .val (.ref b61), .val (.ref b63), .val (.int (0 : Int32)), .unset] [(.int p3), (.int (0 : Int32)), (.ref b63)])
        refine Goes.step (fun _ k => XS.i2b X63.here hx rfl (hb hby at_75) rfl k) ?_
        show Goes p e below s _ _ _ T63 (mkF m 76 #[.val (.int p1), .val (.int p2), .val (.int p3), .val (.int p4), .val (.int p5), .val (.int (Int32.ofNat n)), .val (.int (1 : Int32)), .val (.int (0 : Int32)), .val (.int (0 : Int32)), .val (.ref b61), .val (.ref b63), .val (.int (0 : Int32)), .unset] [(.int (p3.toInt8.toInt32)), (.int (0 : Int32)), (.ref b63)])
        obtain ⟨T64, h64, X64, e64, W64, A64, st64⟩ := stoB X63 hx hZ e63 A_b63_63 (0) rfl (by decide) (g := (mkF m 76 #[.val (.int p1), .val (.int p2), .val (.int p3), .val (.int p4), .val (.int p5), .val (.int (Int32.ofNat n)), .val (.int (1 : Int32)), .val (.int (0 : Int32)), .val (.int (0 : Int32)), .val (.ref b61), .val (.ref b63), .val (.int (0 : Int32)), .unset] [(.int (p3.toInt8.toInt32)), (.int (0 : Int32)), (.ref b63)])) rfl rfl (hb hby at_76)
        refine Goes.step st64 ?_
        have hE62_64 := hE62_63.wr W64
        have hFb62_64 := hFb62_63.other W64 (Or.inl ne_b61_b63)
        have hFs62_64 := hFs62_63.other W64 (Or.inl ne_b61_b63)
        have hA62_64 := hA62_63.other W64 ne_b62_b63
        have z_64 : n0 ≤ h64.size := by rw [W64.size]; exact z_63
        have K_64 : Keep h0 h64 [] := K_63.wr W64 (Or.inr sz_b63)
        have N_64 := Fr.snoc X64 N_62 ge_b63
        have A_b63_64 : Ari Z h64 b63 .byte (7) (updI (fun _ => 0) (0) ((p3.toInt8.toInt32).toInt8.toInt32)) := A64
        show Goes p e below s _ _ _ T64 (mkF m 77 #[.val (.int p1), .val (.int p2), .val (.int p3), .val (.int p4), .val (.int p5), .val (.int (Int32.ofNat n)), .val (.int (1 : Int32)), .val (.int (0 : Int32)), .val (.int (0 : Int32)), .val (.ref b61), .val (.ref b63), .val (.int (0 : Int32)), .unset] [])
        refine Goes.step (fun _ k => XS.iload X64.here hx rfl (hb hby at_77) rfl k) ?_
        show Goes p e below s _ _ _ T64 (mkF m 79 #[.val (.int p1), .val (.int p2), .val (.int p3), .val (.int p4), .val (.int p5), .val (.int (Int32.ofNat n)), .val (.int (1 : Int32)), .val (.int (0 : Int32)), .val (.int (0 : Int32)), .val (.ref b61), .val (.ref b63), .val (.int (0 : Int32)), .unset] [(.int (0 : Int32))])
        refine Goes.step (fun _ k => XS.iconst X64.here hx rfl (hb hby at_79) k) ?_
        show Goes p e below s _ _ _ T64 (mkF m 80 #[.val (.int p1), .val (.int p2), .val (.int p3), .val (.int p4), .val (.int p5), .val (.int (Int32.ofNat n)), .val (.int (1 : Int32)), .val (.int (0 : Int32)), .val (.int (0 : Int32)), .val (.ref b61), .val (.ref b63), .val (.int (0 : Int32)), .unset] [(.int (1 : Int32)), (.int (0 : Int32))])
        refine Goes.step (fun _ k => XS.iadd X64.here hx rfl (hb hby at_80) rfl k) ?_
        show Goes p e below s _ _ _ T64 (mkF m 81 #[.val (.int p1), .val (.int p2), .val (.int p3), .val (.int p4), .val (.int p5), .val (.int (Int32.ofNat n)), .val (.int (1 : Int32)), .val (.int (0 : Int32)), .val (.int (0 : Int32)), .val (.ref b61), .val (.ref b63), .val (.int (0 : Int32)), .unset] [(.int (1 : Int32))])
        refine Goes.step (fun _ k => XS.istore X64.here hx rfl (hb hby at_81) rfl (l' := #[.val (.int p1), .val (.int p2), .val (.int p3), .val (.int p4), .val (.int p5), .val (.int (Int32.ofNat n)), .val (.int (1 : Int32)), .val (.int (0 : Int32)), .val (.int (0 : Int32)), .val (.ref b61), .val (.ref b63), .val (.int (1 : Int32)), .unset]) rfl k) ?_
        show Goes p e below s _ _ _ T64 (mkF m 83 #[.val (.int p1), .val (.int p2), .val (.int p3), .val (.int p4), .val (.int p5), .val (.int (Int32.ofNat n)), .val (.int (1 : Int32)), .val (.int (0 : Int32)), .val (.int (0 : Int32)), .val (.ref b61), .val (.ref b63), .val (.int (1 : Int32)), .unset] [])
        refine Goes.step (fun _ k => XS.aload X64.here hx rfl (hb hby at_83) rfl rfl k) ?_
        show Goes p e below s _ _ _ T64 (mkF m 85 #[.val (.int p1), .val (.int p2), .val (.int p3), .val (.int p4), .val (.int p5), .val (.int (Int32.ofNat n)), .val (.int (1 : Int32)), .val (.int (0 : Int32)), .val (.int (0 : Int32)), .val (.ref b61), .val (.ref b63), .val (.int (1 : Int32)), .unset] [(.ref b61)])
        refine Goes.step (fun _ k => XS.iloadN X64.here hx rfl (hb hby at_85) rfl k) ?_
        show Goes p e below s _ _ _ T64 (mkF m 86 #[.val (.int p1), .val (.int p2), .val (.int p3), .val (.int p4), .val (.int p5), .val (.int (Int32.ofNat n)), .val (.int (1 : Int32)), .val (.int (0 : Int32)), .val (.int (0 : Int32)), .val (.ref b61), .val (.ref b63), .val (.int (1 : Int32)), .unset] [(.int p3), (.ref b61)])
        obtain ⟨v65, T65, h65, L65, X65, e65, Q65, st65⟩ := callXV X64 hx hZ (C := "com/example/proxysmith/proxysmith/ClassFileWriter$Bytes") (b := b61) (y := (⟨"com/example/proxysmith/proxysmith/ClassFileWriter$Bytes", "u1", "(I)V"⟩ : MethodName)) (z := (⟨"com/example/proxysmith/proxysmith/ClassFileWriter$Bytes", "u1", "(I)V"⟩ : MethodName)) hown (hw _ (List.mem_of_getElem? (i := 12) rfl)) (hw _ (List.mem_of_getElem? (i := 13) rfl)) (hw _ (List.mem_of_getElem? (i := 15) rfl)) (hw _ (List.mem_of_getElem? (i := 14) rfl)) (hw _ (List.mem_of_getElem? (i := 16) rfl)) (hw _ (List.mem_of_getElem? (i := 2) rfl)) (notFace_of_selects (args := #[]) (mvT hZ (hw _ (List.mem_of_getElem? (i := 15) rfl)))) (by decide) (W := 0) (argsL := [(.int p3)]) (rest := []) (rm3 l Z a0 hw [] b61 p3 b62 n 0 (fun _ => 0) h64 n0 z_64 hE62_64 hFb62_64 hFs62_64 hA62_64 hab62 ge_b61 hg62 (Nat.zero_le n) (Nat.le_trans hn (by decide)) (by omega)) (by decide) (by decide) (by decide) (by decide) e64 hE62_64 (g := (mkF m 86 #[.val (.int p1), .val (.int p2), .val (.int p3), .val (.int p4), .val (.int p5), .val (.int (Int32.ofNat n)), .val (.int (1 : Int32)), .val (.int (0 : Int32)), .val (.int (0 : Int32)), .val (.ref b61), .val (.ref b63), .val (.int (1 : Int32)), .unset] [(.int p3), (.ref b61)])) rfl (by rw [hml]; rfl) (lenOf pd_0_0 rfl) rfl (by show 2 * 0 + _ ≤ _; exact Nat.le_of_eq rfl) (hb hby at_86)
        obtain ⟨b65, n65, f65, rfl, NQ65, KQ65, hE65, hFb65, hFs65, hA65, hab65, hg65, ho65, hs65, hn65, hf65, hv65⟩ := Q65
        refine Goes.step st65 ?_
        have hE62_65 := hE62_64.keep KQ65
        have A_b63_65 := A_b63_64.keep KQ65 (ninS (Ne.symm ne_b61_b63) (ninS (Ne.symm ne_b62_b63) nin0))
        have z_65 : n0 ≤ h65.size := Nat.le_trans z_64 KQ65.1
        have K_65 : Keep h0 h65 [] := Keep.trans K_64 KQ65 (allS (Or.inr sz_b61) (allS (Or.inr (Nat.le_trans K_61.1 hb62)) all0))
        have N_65 := Fr.app N_64 NQ65
        have ne_b63_b65 : b63 ≠ b65 := ho65.elim (fun q z => (Ne.symm ne_b62_b63) (z.trans q)) (fun q => Nat.ne_of_lt (Nat.lt_of_lt_of_le A_b63_64.lt q))
        have mem_b65 : b65 ∈ [] ∨ h0.size ≤ b65 := ho65.elim (fun q => q ▸ (Or.inr (Nat.le_trans K_61.1 hb62))) (fun q => Or.inr (Nat.le_trans K_64.1 q))
        show Goes p e below s _ _ _ T65 (mkF m 89 #[.val (.int p1), .val (.int p2), .val (.int p3), .val (.int p4), .val (.int p5), .val (.int (Int32.ofNat n)), .val (.int (1 : Int32)), .val (.int (0 : Int32)), .val (.int (0 : Int32)), .val (.ref b61), .val (.ref b63), .val (.int (1 : Int32)), .unset] [])
        refine Goes.step (fun _ k => XS.iload X65.here hx rfl (hb hby at_89) rfl k) ?_
        show Goes p e below s _ _ _ T65 (mkF m 91 #[.val (.int p1), .val (.int p2), .val (.int p3), .val (.int p4), .val (.int p5), .val (.int (Int32.ofNat n)), .val (.int (1 : Int32)), .val (.int (0 : Int32)), .val (.int (0 : Int32)), .val (.ref b61), .val (.ref b63), .val (.int (1 : Int32)), .unset] [(.int (0 : Int32))])
        refine Goes.step (fun _ k => XS.ifYes X65.here hx rfl (pc0 := 91) (pc' := 125) rfl (hb hby at_91) rfl ((if0 _ _).trans (teq (by decide : (0 : Int32) = (0 : Int32))).1) (by decide) (by decide) k) ?_
        show Goes p e below s _ _ _ T65 (mkF m 125 #[.val (.int p1), .val (.int p2), .val (.int p3), .val (.int p4), .val (.int p5), .val (.int (Int32.ofNat n)), .val (.int (1 : Int32)), .val (.int (0 : Int32)), .val (.int (0 : Int32)), .val (.ref b61), .val (.ref b63), .val (.int (1 : Int32)), .unset] [])
        refine Goes.step (fun _ k => XS.iload X65.here hx rfl (hb hby at_125) rfl k) ?_
        show Goes p e below s _ _ _ T65 (mkF m 127 #[.val (.int p1), .val (.int p2), .val (.int p3), .val (.int p4), .val (.int p5), .val (.int (Int32.ofNat n)), .val (.int (1 : Int32)), .val (.int (0 : Int32)), .val (.int (0 : Int32)), .val (.ref b61), .val (.ref b63), .val (.int (1 : Int32)), .unset] [(.int (0 : Int32))])
        refine Goes.step (fun _ k => XS.ifYes X65.here hx rfl (pc0 := 127) (pc' := 190) rfl (hb hby at_127) rfl ((if0 _ _).trans (teq (by decide : (0 : Int32) = (0 : Int32))).1) (by decide) (by decide) k) ?_
        show Goes p e below s _ _ _ T65 (mkF m 190 #[.val (.int p1), .val (.int p2), .val (.int p3), .val (.int p4), .val (.int p5), .val (.int (Int32.ofNat n)), .val (.int (1 : Int32)), .val (.int (0 : Int32)), .val (.int (0 : Int32)), .val (.ref b61), .val (.ref b63), .val (.int (1 : Int32)), .unset] [])
        refine Goes.step (fun _ k => XS.aload X65.here hx rfl (hb hby at_190) rfl rfl k) ?_
        show Goes p e below s _ _ _ T65 (mkF m 192 #[.val (.int p1), .val (.int p2), .val (.int p3), .val (.int p4), .val (.int p5), .val (.int (Int32.ofNat n)), .val (.int (1 : Int32)), .val (.int (0 : Int32)), .val (.int (0 : Int32)), .val (.ref b61), .val (.ref b63), .val (.int (1 : Int32)), .unset] [(.ref b61)])
        obtain ⟨v66, T66, h66, L66, X66, e66, Q66, st66⟩ := callXV X65 hx hZ (C := "com/example/proxysmith/proxysmith/ClassFileWriter$Bytes") (b := b61) (y := (⟨"com/example/proxysmith/proxysmith/ClassFileWriter$Bytes", "toByteArray", "()[B"⟩ : MethodName)) (z := (⟨"com/example/proxysmith/proxysmith/ClassFileWriter$Bytes", "toByteArray", "()[B"⟩ : MethodName)) hown (hw _ (List.mem_of_getElem? (i := 43) rfl)) (hw _ (List.mem_of_getElem? (i := 44) rfl)) (hw _ (List.mem_of_getElem? (i := 46) rfl)) (hw _ (List.mem_of_getElem? (i := 45) rfl)) (hw _ (List.mem_of_getElem? (i := 47) rfl)) (hw _ (List.mem_of_getElem? (i := 2) rfl)) (notFace_of_selects (args := #[]) (mvT hZ (hw _ (List.mem_of_getElem? (i := 46) rfl)))) (by decide) (W := 0) (argsL := []) (rest := []) (rm9 l Z a0 hw [] b61 b65 n65 1 f65 h65 n0 z_65 hE65 hFb65 hFs65 hA65 hab65 ge_b61 hg65 hs65 hn65 (by omega)) (by decide) (by decide) (by decide) (by decide) e65 hE65 (g := (mkF m 192 #[.val (.int p1), .val (.int p2), .val (.int p3), .val (.int p4), .val (.int p5), .val (.int (Int32.ofNat n)), .val (.int (1 : Int32)), .val (.int (0 : Int32)), .val (.int (0 : Int32)), .val (.ref b61), .val (.ref b63), .val (.int (1 : Int32)), .unset] [(.ref b61)])) rfl (by rw [hml]; rfl) (lenOf pd_0_1 rfl) rfl (by show 2 * 0 + _ ≤ _; exact Nat.le_of_eq rfl) (hb hby at_192)
        obtain ⟨r66, rfl, NQ66, KQ66, g66, hA66, hg66⟩ := Q66
        refine Goes.step st66 ?_
        have hE65_66 := hE65.keep KQ66
        have A_b63_66 := A_b63_65.keep KQ66 nin0
        have hFb65_66 := hFb65.keep KQ66 nin0
        have hFs65_66 := hFs65.keep KQ66 nin0
        have hA65_66 := hA65.keep KQ66 nin0
        have z_66 : n0 ≤ h66.size := Nat.le_trans z_65 KQ66.1
        have K_66 : Keep h0 h66 [] := Keep.trans K_65 KQ66 all0
        have N_66 := Fr.app N_65 NQ66
        show Goes p e below s _ _ _ T66 (mkF m 195 #[.val (.int p1), .val (.int p2), .val (.int p3), .val (.int p4), .val (.int p5), .val (.int (Int32.ofNat n)), .val (.int (1 : Int32)), .val (.int (0 : Int32)), .val (.int (0 : Int32)), .val (.ref b61), .val (.ref b63), .val (.int (1 : Int32)), .unset] [(.ref r66)])
        refine Goes.step (fun _ k => XS.astore X66.here hx rfl (hb hby at_195) rfl rfl (l' := #[.val (.int p1), .val (.int p2), .val (.int p3), .val (.int p4), .val (.int p5), .val (.int (Int32.ofNat n)), .val (.int (1 : Int32)), .val (.int (0 : Int32)), .val (.int (0 : Int32)), .val (.ref b61), .val (.ref b63), .val (.int (1 : Int32)), .val (.ref r66)]) rfl k) ?_
        show Goes p e below s _ _ _ T66 (mkF m 197 #[.val (.int p1), .val (.int p2), .val (.int p3), .val (.int p4), .val (.int p5), .val (.int (Int32.ofNat n)), .val (.int (1 : Int32)), .val (.int (0 : Int32)), .val (.int (0 : Int32)), .val (.ref b61), .val (.ref b63), .val (.int (1 : Int32)), .val (.ref r66)] [])
        refine Goes.step (fun _ k => XS.aload X66.here hx rfl (hb hby at_197) rfl rfl k) ?_
        show Goes p e below s _ _ _ T66 (mkF m 199 #[.val (.int p1), .val (.int p2), .val (.int p3), .val (.int p4), .val (.int p5), .val (.int (Int32.ofNat n)), .val (.int (1 : Int32)), .val (.int (0 : Int32)), .val (.int (0 : Int32)), .val (.ref b61), .val (.ref b63), .val (.int (1 : Int32)), .val (.ref r66)] [(.ref r66)])
        refine Goes.step (fun _ k => XS.ifnullNo X66.here hx rfl (hb hby at_199) rfl k) ?_
        show Goes p e below s _ _ _ T66 (mkF m 202 #[.val (.int p1), .val (.int p2), .val (.int p3), .val (.int p4), .val (.int p5), .val (.int (Int32.ofNat n)), .val (.int (1 : Int32)), .val (.int (0 : Int32)), .val (.int (0 : Int32)), .val (.ref b61), .val (.ref b63), .val (.int (1 : Int32)), .val (.ref r66)] [])
        refine Goes.step (fun _ k => XS.aload X66.here hx rfl (hb hby at_202) rfl rfl k) ?_
        show Goes p e below s _ _ _ T66 (mkF m 204 #[.val (.int p1), .val (.int p2), .val (.int p3), .val (.int p4), .val (.int p5), .val (.int (Int32.ofNat n)), .val (.int (1 : Int32)), .val (.int (0 : Int32)), .val (.int (0 : Int32)), .val (.ref b61), .val (.ref b63), .val (.int (1 : Int32)), .val (.ref r66)] [(.ref r66)])
        refine Goes.step (fun _ k => rdL X66 hx hZ e66 hA66 (g := (mkF m 204 #[.val (.int p1), .val (.int p2), .val (.int p3), .val (.int p4), .val (.int p5), .val (.int (Int32.ofNat n)), .val (.int (1 : Int32)), .val (.int (0 : Int32)), .val (.int (0 : Int32)), .val (.ref b61), .val (.ref b63), .val (.int (1 : Int32)), .val (.ref r66)] [(.ref r66)])) rfl rfl (hb hby at_204) _ k) ?_
        show Goes p e below s _ _ _ T66 (mkF m 205 #[.val (.int p1), .val (.int p2), .val (.int p3), .val (.int p4), .val (.int p5), .val (.int (Int32.ofNat n)), .val (.int (1 : Int32)), .val (.int (0 : Int32)), .val (.int (0 : Int32)), .val (.ref b61), .val (.ref b63), .val (.int (1 : Int32)), .val (.ref r66)] [(.int (Int32.ofNat 1))])
        refine Goes.step (fun _ k => XS.iload X66.here hx rfl (hb hby at_205) rfl k) ?_
        show Goes p e below s _ _ _ T66 (mkF m 207 #[.val (.int p1), .val (.int p2), .val (.int p3), .val (.int p4), .val (.int p5), .val (.int (Int32.ofNat n)), .val (.int (1 : Int32)), .val (.int (0 : Int32)), .val (.int (0 : Int32)), .val (.ref b61), .val (.ref b63), .val (.int (1 : Int32)), .val (.ref r66)] [(.int (1 : Int32)), (.int (Int32.ofNat 1))])
        refine Goes.step (fun _ k => XS.icmpYes X66.here hx rfl (pc0 := 207) (pc' := 212) rfl (hb hby at_207) rfl (teq (by decide : (Int32.ofNat 1) = (1 : Int32))).1 (by decide) (by decide) k) ?_
        show Goes p e below s _ _ _ T66 (mkF m 212 #[.val (.int p1), .val (.int p2), .val (.int p3), .val (.int p4), .val (.int p5), .val (.int (Int32.ofNat n)), .val (.int (1 : Int32)), .val (.int (0 : Int32)), .val (.int (0 : Int32)), .val (.ref b61), .val (.ref b63), .val (.int (1 : Int32)), .val (.ref r66)] [])
        refine Goes.step (fun _ k => XS.aload X66.here hx rfl (hb hby at_212) rfl rfl k) ?_
        show Goes p e below s _ _ _ T66 (mkF m 214 #[.val (.int p1), .val (.int p2), .val (.int p3), .val (.int p4), .val (.int p5), .val (.int (Int32.ofNat n)), .val (.int (1 : Int32)), .val (.int (0 : Int32)), .val (.int (0 : Int32)), .val (.ref b61), .val (.ref b63), .val (.int (1 : Int32)), .val (.ref r66)] [(.ref r66)])
        refine Goes.step (fun _ k => XS.aload X66.here hx rfl (hb hby at_214) rfl rfl k) ?_
        show Goes p e below s _ _ _ T66 (mkF m 216 #[.val (.int p1), .val (.int p2), .val (.int p3), .val (.int p4), .val (.int p5), .val (.int (Int32.ofNat n)), .val (.int (1 : Int32)), .val (.int (0 : Int32)), .val (.int (0 : Int32)), .val (.ref b61), .val (.ref b63), .val (.int (1 : Int32)), .val (.ref r66)] [(.ref b63), (.ref r66)])
        refine Goes.step (fun _ k => XS.iload X66.here hx rfl (hb hby at_216) rfl k) ?_
        show Goes p e below s _ _ _ T66 (mkF m 218 #[.val (.int p1), .val (.int p2), .val (.int p3), .val (.int p4), .val (.int p5), .val (.int (Int32.ofNat n)), .val (.int (1 : Int32)), .val (.int (0 : Int32)), .val (.int (0 : Int32)), .val (.ref b61), .val (.ref b63), .val (.int (1 : Int32)), .val (.ref r66)] [(.int (1 : Int32)), (.ref b63), (.ref r66)])
        refine Goes.step (fun _ k => XS.iconst X66.here hx rfl (hb hby at_218) k) ?_
        show Goes p e below s _ _ _ T66 (mkF m 219 #[.val (.int p1), .val (.int p2), .val (.int p3), .val (.int p4), .val (.int p5), .val (.int (Int32.ofNat n)), .val (.int (1 : Int32)), .val (.int (0 : Int32)), .val (.int (0 : Int32)), .val (.ref b61), .val (.ref b63), .val (.int (1 : Int32)), .val (.ref r66)] [(.int (0 : Int32)), (.int (1 : Int32)), (.ref b63), (.ref r66)])
        obtain ⟨T67, X67, e67, st67⟩ := callPure X66 hx hZ (y := (⟨"com/example/proxysmith/proxysmith/BytesToByteArrayPinLaw", "same", "([B[BII)Z"⟩ : MethodName)) hown (hw _ (List.mem_of_getElem? (i := 48) rfl)) (hw _ (List.mem_of_getElem? (i := 49) rfl)) (hw _ (List.mem_of_getElem? (i := 50) rfl)) (hw _ (List.mem_of_getElem? (i := 51) rfl)) (by decide) (W := 0) (argsL := [(.ref r66), (.ref b63), (.int (1 : Int32)), (.int (0 : Int32))]) (rest := []) (r := (.int (1 : Int32))) (fun _ _ _ q => q) (rm10b l Z a0 hw [] r66 b63 (1 : Int32) (0 : Int32) 0 1 7 g66 (updI (fun _ => 0) (0) ((p3.toInt8.toInt32).toInt8.toInt32)) h66 n0 z_66 (by decide) rfl hA66 A_b63_66 (by decide) (by decide) ((hg66 0 (by omega)).trans (hv65.trans (own_BB _).symm))) (by decide) (by decide) (by decide) (by decide) e66 (g := (mkF m 219 #[.val (.int p1), .val (.int p2), .val (.int p3), .val (.int p4), .val (.int p5), .val (.int (Int32.ofNat n)), .val (.int (1 : Int32)), .val (.int (0 : Int32)), .val (.int (0 : Int32)), .val (.ref b61), .val (.ref b63), .val (.int (1 : Int32)), .val (.ref r66)] [(.int (0 : Int32)), (.int (1 : Int32)), (.ref b63), (.ref r66)])) rfl (by rw [hml]; rfl) (lenOf pd_0_2 rfl) rfl (by show 2 * 0 + _ ≤ _; exact Nat.le_of_eq rfl) (hb hby at_219)
        refine Goes.step st67 ?_
        show Goes p e below s _ _ _ T67 (mkF m 222 #[.val (.int p1), .val (.int p2), .val (.int p3), .val (.int p4), .val (.int p5), .val (.int (Int32.ofNat n)), .val (.int (1 : Int32)), .val (.int (0 : Int32)), .val (.int (0 : Int32)), .val (.ref b61), .val (.ref b63), .val (.int (1 : Int32)), .val (.ref r66)] [(.int (1 : Int32))])
        as_aux_lemma =>
          refine Goes.step (fun _ k => XS.ifNo X67.here hx rfl (hb hby at_222) rfl ((if0 _ _).trans (feq (by decide : ¬ ((1 : Int32) = (0 : Int32)))).1) k) ?_
          show Goes p e below s _ _ _ T67 (mkF m 225 #[.val (.int p1), .val (.int p2), .val (.int p3), .val (.int p4), .val (.int p5), .val (.int (Int32.ofNat n)), .val (.int (1 : Int32)), .val (.int (0 : Int32)), .val (.int (0 : Int32)), .val (.ref b61), .val (.ref b63), .val (.int (1 : Int32)), .val (.ref r66)] [])
          refine Goes.step (fun _ k => XS.aload X67.here hx rfl (hb hby at_225) rfl rfl k) ?_
          show Goes p e below s _ _ _ T67 (mkF m 227 #[.val (.int p1), .val (.int p2), .val (.int p3), .val (.int p4), .val (.int p5), .val (.int (Int32.ofNat n)), .val (.int (1 : Int32)), .val (.int (0 : Int32)), .val (.int (0 : Int32)), .val (.ref b61), .val (.ref b63), .val (.int (1 : Int32)), .val (.ref r66)] [(.ref r66)])
          refine Goes.step (fun _ k => XS.aload X67.here hx rfl (hb hby at_227) rfl rfl k) ?_
          show Goes p e below s _ _ _ T67 (mkF m 229 #[.val (.int p1), .val (.int p2), .val (.int p3), .val (.int p4), .val (.int p5), .val (.int (Int32.ofNat n)), .val (.int (1 : Int32)), .val (.int (0 : Int32)), .val (.int (0 : Int32)), .val (.ref b61), .val (.ref b63), .val (.int (1 : Int32)), .val (.ref r66)] [(.ref b63), (.ref r66)])
          refine Goes.step (fun _ k => XS.iload X67.here hx rfl (hb hby at_229) rfl k) ?_
          show Goes p e below s _ _ _ T67 (mkF m 231 #[.val (.int p1), .val (.int p2), .val (.int p3), .val (.int p4), .val (.int p5), .val (.int (Int32.ofNat n)), .val (.int (1 : Int32)), .val (.int (0 : Int32)), .val (.int (0 : Int32)), .val (.ref b61), .val (.ref b63), .val (.int (1 : Int32)), .val (.ref r66)] [(.int (1 : Int32)), (.ref b63), (.ref r66)])
          refine Goes.step (fun _ k => XS.iconst X67.here hx rfl (hb hby at_231) k) ?_
          show Goes p e below s _ _ _ T67 (mkF m 232 #[.val (.int p1), .val (.int p2), .val (.int p3), .val (.int p4), .val (.int p5), .val (.int (Int32.ofNat n)), .val (.int (1 : Int32)), .val (.int (0 : Int32)), .val (.int (0 : Int32)), .val (.ref b61), .val (.ref b63), .val (.int (1 : Int32)), .val (.ref r66)] [(.int (1 : Int32)), (.int (1 : Int32)), (.ref b63), (.ref r66)])
          obtain ⟨T68, X68, e68, st68⟩ := callPure X67 hx hZ (y := (⟨"com/example/proxysmith/proxysmith/BytesToByteArrayPinLaw", "same", "([B[BII)Z"⟩ : MethodName)) hown (hw _ (List.mem_of_getElem? (i := 48) rfl)) (hw _ (List.mem_of_getElem? (i := 49) rfl)) (hw _ (List.mem_of_getElem? (i := 50) rfl)) (hw _ (List.mem_of_getElem? (i := 51) rfl)) (by decide) (W := 0) (argsL := [(.ref r66), (.ref b63), (.int (1 : Int32)), (.int (1 : Int32))]) (rest := []) (r := (.int (1 : Int32))) (fun _ _ _ q => q) (rm10a l Z a0 hw [] r66 b63 (1 : Int32) (1 : Int32) h66 n0 z_66 (by decide)) (by decide) (by decide) (by decide) (by decide) e67 (g := (mkF m 232 #[.val (.int p1), .val (.int p2), .val (.int p3), .val (.int p4), .val (.int p5), .val (.int (Int32.ofNat n)), .val (.int (1 : Int32)), .val (.int (0 : Int32)), .val (.int (0 : Int32)), .val (.ref b61), .val (.ref b63), .val (.int (1 : Int32)), .val (.ref r66)] [(.int (1 : Int32)), (.int (1 : Int32)), (.ref b63), (.ref r66)])) rfl (by rw [hml]; rfl) (lenOf pd_0_2 rfl) rfl (by show 2 * 0 + _ ≤ _; exact Nat.le_of_eq rfl) (hb hby at_232)
          refine Goes.step st68 ?_
          show Goes p e below s _ _ _ T68 (mkF m 235 #[.val (.int p1), .val (.int p2), .val (.int p3), .val (.int p4), .val (.int p5), .val (.int (Int32.ofNat n)), .val (.int (1 : Int32)), .val (.int (0 : Int32)), .val (.int (0 : Int32)), .val (.ref b61), .val (.ref b63), .val (.int (1 : Int32)), .val (.ref r66)] [(.int (1 : Int32))])
          refine Goes.step (fun _ k => XS.ifNo X68.here hx rfl (hb hby at_235) rfl ((if0 _ _).trans (feq (by decide : ¬ ((1 : Int32) = (0 : Int32)))).1) k) ?_
          show Goes p e below s _ _ _ T68 (mkF m 238 #[.val (.int p1), .val (.int p2), .val (.int p3), .val (.int p4), .val (.int p5), .val (.int (Int32.ofNat n)), .val (.int (1 : Int32)), .val (.int (0 : Int32)), .val (.int (0 : Int32)), .val (.ref b61), .val (.ref b63), .val (.int (1 : Int32)), .val (.ref r66)] [])
          refine Goes.step (fun _ k => XS.aload X68.here hx rfl (hb hby at_238) rfl rfl k) ?_
          show Goes p e below s _ _ _ T68 (mkF m 240 #[.val (.int p1), .val (.int p2), .val (.int p3), .val (.int p4), .val (.int p5), .val (.int (Int32.ofNat n)), .val (.int (1 : Int32)), .val (.int (0 : Int32)), .val (.int (0 : Int32)), .val (.ref b61), .val (.ref b63), .val (.int (1 : Int32)), .val (.ref r66)] [(.ref r66)])
          refine Goes.step (fun _ k => XS.aload X68.here hx rfl (hb hby at_240) rfl rfl k) ?_
          show Goes p e below s _ _ _ T68 (mkF m 242 #[.val (.int p1), .val (.int p2), .val (.int p3), .val (.int p4), .val (.int p5), .val (.int (Int32.ofNat n)), .val (.int (1 : Int32)), .val (.int (0 : Int32)), .val (.int (0 : Int32)), .val (.ref b61), .val (.ref b63), .val (.int (1 : Int32)), .val (.ref r66)] [(.ref b63), (.ref r66)])
          refine Goes.step (fun _ k => XS.iload X68.here hx rfl (hb hby at_242) rfl k) ?_
          show Goes p e below s _ _ _ T68 (mkF m 244 #[.val (.int p1), .val (.int p2), .val (.int p3), .val (.int p4), .val (.int p5), .val (.int (Int32.ofNat n)), .val (.int (1 : Int32)), .val (.int (0 : Int32)), .val (.int (0 : Int32)), .val (.ref b61), .val (.ref b63), .val (.int (1 : Int32)), .val (.ref r66)] [(.int (1 : Int32)), (.ref b63), (.ref r66)])
          refine Goes.step (fun _ k => XS.iconst X68.here hx rfl (hb hby at_244) k) ?_
          show Goes p e below s _ _ _ T68 (mkF m 245 #[.val (.int p1), .val (.int p2), .val (.int p3), .val (.int p4), .val (.int p5), .val (.int (Int32.ofNat n)), .val (.int (1 : Int32)), .val (.int (0 : Int32)), .val (.int (0 : Int32)), .val (.ref b61), .val (.ref b63), .val (.int (1 : Int32)), .val (.ref r66)] [(.int (2 : Int32)), (.int (1 : Int32)), (.ref b63), (.ref r66)])
          obtain ⟨T69, X69, e69, st69⟩ := callPure X68 hx hZ (y := (⟨"com/example/proxysmith/proxysmith/BytesToByteArrayPinLaw", "same", "([B[BII)Z"⟩ : MethodName)) hown (hw _ (List.mem_of_getElem? (i := 48) rfl)) (hw _ (List.mem_of_getElem? (i := 49) rfl)) (hw _ (List.mem_of_getElem? (i := 50) rfl)) (hw _ (List.mem_of_getElem? (i := 51) rfl)) (by decide) (W := 0) (argsL := [(.ref r66), (.ref b63), (.int (1 : Int32)), (.int (2 : Int32))]) (rest := []) (r := (.int (1 : Int32))) (fun _ _ _ q => q) (rm10a l Z a0 hw [] r66 b63 (1 : Int32) (2 : Int32) h66 n0 z_66 (by decide)) (by decide) (by decide) (by decide) (by decide) e68 (g := (mkF m 245 #[.val (.int p1), .val (.int p2), .val (.int p3), .val (.int p4), .val (.int p5), .val (.int (Int32.ofNat n)), .val (.int (1 : Int32)), .val (.int (0 : Int32)), .val (.int (0 : Int32)), .val (.ref b61), .val (.ref b63), .val (.int (1 : Int32)), .val (.ref r66)] [(.int (2 : Int32)), (.int (1 : Int32)), (.ref b63), (.ref r66)])) rfl (by rw [hml]; rfl) (lenOf pd_0_2 rfl) rfl (by show 2 * 0 + _ ≤ _; exact Nat.le_of_eq rfl) (hb hby at_245)
          refine Goes.step st69 ?_
          show Goes p e below s _ _ _ T69 (mkF m 248 #[.val (.int p1), .val (.int p2), .val (.int p3), .val (.int p4), .val (.int p5), .val (.int (Int32.ofNat n)), .val (.int (1 : Int32)), .val (.int (0 : Int32)), .val (.int (0 : Int32)), .val (.ref b61), .val (.ref b63), .val (.int (1 : Int32)), .val (.ref r66)] [(.int (1 : Int32))])
          refine Goes.step (fun _ k => XS.ifNo X69.here hx rfl (hb hby at_248) rfl ((if0 _ _).trans (feq (by decide : ¬ ((1 : Int32) = (0 : Int32)))).1) k) ?_
          show Goes p e below s _ _ _ T69 (mkF m 251 #[.val (.int p1), .val (.int p2), .val (.int p3), .val (.int p4), .val (.int p5), .val (.int (Int32.ofNat n)), .val (.int (1 : Int32)), .val (.int (0 : Int32)), .val (.int (0 : Int32)), .val (.ref b61), .val (.ref b63), .val (.int (1 : Int32)), .val (.ref r66)] [])
          refine Goes.step (fun _ k => XS.aload X69.here hx rfl (hb hby at_251) rfl rfl k) ?_
          show Goes p e below s _ _ _ T69 (mkF m 253 #[.val (.int p1), .val (.int p2), .val (.int p3), .val (.int p4), .val (.int p5), .val (.int (Int32.ofNat n)), .val (.int (1 : Int32)), .val (.int (0 : Int32)), .val (.int (0 : Int32)), .val (.ref b61), .val (.ref b63), .val (.int (1 : Int32)), .val (.ref r66)] [(.ref r66)])
          refine Goes.step (fun _ k => XS.aload X69.here hx rfl (hb hby at_253) rfl rfl k) ?_
          show Goes p e below s _ _ _ T69 (mkF m 255 #[.val (.int p1), .val (.int p2), .val (.int p3), .val (.int p4), .val (.int p5), .val (.int (Int32.ofNat n)), .val (.int (1 : Int32)), .val (.int (0 : Int32)), .val (.int (0 : Int32)), .val (.ref b61), .val (.ref b63), .val (.int (1 : Int32)), .val (.ref r66)] [(.ref b63), (.ref r66)])
          refine Goes.step (fun _ k => XS.iload X69.here hx rfl (hb hby at_255) rfl k) ?_
          show Goes p e below s _ _ _ T69 (mkF m 257 #[.val (.int p1), .val (.int p2), .val (.int p3), .val (.int p4), .val (.int p5), .val (.int (Int32.ofNat n)), .val (.int (1 : Int32)), .val (.int (0 : Int32)), .val (.int (0 : Int32)), .val (.ref b61), .val (.ref b63), .val (.int (1 : Int32)), .val (.ref r66)] [(.int (1 : Int32)), (.ref b63), (.ref r66)])
          refine Goes.step (fun _ k => XS.iconst X69.here hx rfl (hb hby at_257) k) ?_
          show Goes p e below s _ _ _ T69 (mkF m 258 #[.val (.int p1), .val (.int p2), .val (.int p3), .val (.int p4), .val (.int p5), .val (.int (Int32.ofNat n)), .val (.int (1 : Int32)), .val (.int (0 : Int32)), .val (.int (0 : Int32)), .val (.ref b61), .val (.ref b63), .val (.int (1 : Int32)), .val (.ref r66)] [(.int (3 : Int32)), (.int (1 : Int32)), (.ref b63), (.ref r66)])
          obtain ⟨T70, X70, e70, st70⟩ := callPure X69 hx hZ (y := (⟨"com/example/proxysmith/proxysmith/BytesToByteArrayPinLaw", "same", "([B[BII)Z"⟩ : MethodName)) hown (hw _ (List.mem_of_getElem? (i := 48) rfl)) (hw _ (List.mem_of_getElem? (i := 49) rfl)) (hw _ (List.mem_of_getElem? (i := 50) rfl)) (hw _ (List.mem_of_getElem? (i := 51) rfl)) (by decide) (W := 0) (argsL := [(.ref r66), (.ref b63), (.int (1 : Int32)), (.int (3 : Int32))]) (rest := []) (r := (.int (1 : Int32))) (fun _ _ _ q => q) (rm10a l Z a0 hw [] r66 b63 (1 : Int32) (3 : Int32) h66 n0 z_66 (by decide)) (by decide) (by decide) (by decide) (by decide) e69 (g := (mkF m 258 #[.val (.int p1), .val (.int p2), .val (.int p3), .val (.int p4), .val (.int p5), .val (.int (Int32.ofNat n)), .val (.int (1 : Int32)), .val (.int (0 : Int32)), .val (.int (0 : Int32)), .val (.ref b61), .val (.ref b63), .val (.int (1 : Int32)), .val (.ref r66)] [(.int (3 : Int32)), (.int (1 : Int32)), (.ref b63), (.ref r66)])) rfl (by rw [hml]; rfl) (lenOf pd_0_2 rfl) rfl (by show 2 * 0 + _ ≤ _; exact Nat.le_of_eq rfl) (hb hby at_258)
          refine Goes.step st70 ?_
          show Goes p e below s _ _ _ T70 (mkF m 261 #[.val (.int p1), .val (.int p2), .val (.int p3), .val (.int p4), .val (.int p5), .val (.int (Int32.ofNat n)), .val (.int (1 : Int32)), .val (.int (0 : Int32)), .val (.int (0 : Int32)), .val (.ref b61), .val (.ref b63), .val (.int (1 : Int32)), .val (.ref r66)] [(.int (1 : Int32))])
          refine Goes.step (fun _ k => XS.ifNo X70.here hx rfl (hb hby at_261) rfl ((if0 _ _).trans (feq (by decide : ¬ ((1 : Int32) = (0 : Int32)))).1) k) ?_
          show Goes p e below s _ _ _ T70 (mkF m 264 #[.val (.int p1), .val (.int p2), .val (.int p3), .val (.int p4), .val (.int p5), .val (.int (Int32.ofNat n)), .val (.int (1 : Int32)), .val (.int (0 : Int32)), .val (.int (0 : Int32)), .val (.ref b61), .val (.ref b63), .val (.int (1 : Int32)), .val (.ref r66)] [])
          refine Goes.step (fun _ k => XS.aload X70.here hx rfl (hb hby at_264) rfl rfl k) ?_
          show Goes p e below s _ _ _ T70 (mkF m 266 #[.val (.int p1), .val (.int p2), .val (.int p3), .val (.int p4), .val (.int p5), .val (.int (Int32.ofNat n)), .val (.int (1 : Int32)), .val (.int (0 : Int32)), .val (.int (0 : Int32)), .val (.ref b61), .val (.ref b63), .val (.int (1 : Int32)), .val (.ref r66)] [(.ref r66)])
          refine Goes.step (fun _ k => XS.aload X70.here hx rfl (hb hby at_266) rfl rfl k) ?_
          show Goes p e below s _ _ _ T70 (mkF m 268 #[.val (.int p1), .val (.int p2), .val (.int p3), .val (.int p4), .val (.int p5), .val (.int (Int32.ofNat n)), .val (.int (1 : Int32)), .val (.int (0 : Int32)), .val (.int (0 : Int32)), .val (.ref b61), .val (.ref b63), .val (.int (1 : Int32)), .val (.ref r66)] [(.ref b63), (.ref r66)])
          refine Goes.step (fun _ k => XS.iload X70.here hx rfl (hb hby at_268) rfl k) ?_
          show Goes p e below s _ _ _ T70 (mkF m 270 #[.val (.int p1), .val (.int p2), .val (.int p3), .val (.int p4), .val (.int p5), .val (.int (Int32.ofNat n)), .val (.int (1 : Int32)), .val (.int (0 : Int32)), .val (.int (0 : Int32)), .val (.ref b61), .val (.ref b63), .val (.int (1 : Int32)), .val (.ref r66)] [(.int (1 : Int32)), (.ref b63), (.ref r66)])
          refine Goes.step (fun _ k => XS.iconst X70.here hx rfl (hb hby at_270) k) ?_
          show Goes p e below s _ _ _ T70 (mkF m 271 #[.val (.int p1), .val (.int p2), .val (.int p3), .val (.int p4), .val (.int p5), .val (.int (Int32.ofNat n)), .val (.int (1 : Int32)), .val (.int (0 : Int32)), .val (.int (0 : Int32)), .val (.ref b61), .val (.ref b63), .val (.int (1 : Int32)), .val (.ref r66)] [(.int (4 : Int32)), (.int (1 : Int32)), (.ref b63), (.ref r66)])
          obtain ⟨T71, X71, e71, st71⟩ := callPure X70 hx hZ (y := (⟨"com/example/proxysmith/proxysmith/BytesToByteArrayPinLaw", "same", "([B[BII)Z"⟩ : MethodName)) hown (hw _ (List.mem_of_getElem? (i := 48) rfl)) (hw _ (List.mem_of_getElem? (i := 49) rfl)) (hw _ (List.mem_of_getElem? (i := 50) rfl)) (hw _ (List.mem_of_getElem? (i := 51) rfl)) (by decide) (W := 0) (argsL := [(.ref r66), (.ref b63), (.int (1 : Int32)), (.int (4 : Int32))]) (rest := []) (r := (.int (1 : Int32))) (fun _ _ _ q => q) (rm10a l Z a0 hw [] r66 b63 (1 : Int32) (4 : Int32) h66 n0 z_66 (by decide)) (by decide) (by decide) (by decide) (by decide) e70 (g := (mkF m 271 #[.val (.int p1), .val (.int p2), .val (.int p3), .val (.int p4), .val (.int p5), .val (.int (Int32.ofNat n)), .val (.int (1 : Int32)), .val (.int (0 : Int32)), .val (.int (0 : Int32)), .val (.ref b61), .val (.ref b63), .val (.int (1 : Int32)), .val (.ref r66)] [(.int (4 : Int32)), (.int (1 : Int32)), (.ref b63), (.ref r66)])) rfl (by rw [hml]; rfl) (lenOf pd_0_2 rfl) rfl (by show 2 * 0 + _ ≤ _; exact Nat.le_of_eq rfl) (hb hby at_271)
          refine Goes.step st71 ?_
          show Goes p e below s _ _ _ T71 (mkF m 274 #[.val (.int p1), .val (.int p2), .val (.int p3), .val (.int p4), .val (.int p5), .val (.int (Int32.ofNat n)), .val (.int (1 : Int32)), .val (.int (0 : Int32)), .val (.int (0 : Int32)), .val (.ref b61), .val (.ref b63), .val (.int (1 : Int32)), .val (.ref r66)] [(.int (1 : Int32))])
          refine Goes.step (fun _ k => XS.ifNo X71.here hx rfl (hb hby at_274) rfl ((if0 _ _).trans (feq (by decide : ¬ ((1 : Int32) = (0 : Int32)))).1) k) ?_
          show Goes p e below s _ _ _ T71 (mkF m 277 #[.val (.int p1), .val (.int p2), .val (.int p3), .val (.int p4), .val (.int p5), .val (.int (Int32.ofNat n)), .val (.int (1 : Int32)), .val (.int (0 : Int32)), .val (.int (0 : Int32)), .val (.ref b61), .val (.ref b63), .val (.int (1 : Int32)), .val (.ref r66)] [])
          refine Goes.step (fun _ k => XS.aload X71.here hx rfl (hb hby at_277) rfl rfl k) ?_
          show Goes p e below s _ _ _ T71 (mkF m 279 #[.val (.int p1), .val (.int p2), .val (.int p3), .val (.int p4), .val (.int p5), .val (.int (Int32.ofNat n)), .val (.int (1 : Int32)), .val (.int (0 : Int32)), .val (.int (0 : Int32)), .val (.ref b61), .val (.ref b63), .val (.int (1 : Int32)), .val (.ref r66)] [(.ref r66)])
          refine Goes.step (fun _ k => XS.aload X71.here hx rfl (hb hby at_279) rfl rfl k) ?_
          show Goes p e below s _ _ _ T71 (mkF m 281 #[.val (.int p1), .val (.int p2), .val (.int p3), .val (.int p4), .val (.int p5), .val (.int (Int32.ofNat n)), .val (.int (1 : Int32)), .val (.int (0 : Int32)), .val (.int (0 : Int32)), .val (.ref b61), .val (.ref b63), .val (.int (1 : Int32)), .val (.ref r66)] [(.ref b63), (.ref r66)])
          refine Goes.step (fun _ k => XS.iload X71.here hx rfl (hb hby at_281) rfl k) ?_
          show Goes p e below s _ _ _ T71 (mkF m 283 #[.val (.int p1), .val (.int p2), .val (.int p3), .val (.int p4), .val (.int p5), .val (.int (Int32.ofNat n)), .val (.int (1 : Int32)), .val (.int (0 : Int32)), .val (.int (0 : Int32)), .val (.ref b61), .val (.ref b63), .val (.int (1 : Int32)), .val (.ref r66)] [(.int (1 : Int32)), (.ref b63), (.ref r66)])
          refine Goes.step (fun _ k => XS.iconst X71.here hx rfl (hb hby at_283) k) ?_
          show Goes p e below s _ _ _ T71 (mkF m 284 #[.val (.int p1), .val (.int p2), .val (.int p3), .val (.int p4), .val (.int p5), .val (.int (Int32.ofNat n)), .val (.int (1 : Int32)), .val (.int (0 : Int32)), .val (.int (0 : Int32)), .val (.ref b61), .val (.ref b63), .val (.int (1 : Int32)), .val (.ref r66)] [(.int (5 : Int32)), (.int (1 : Int32)), (.ref b63), (.ref r66)])
          obtain ⟨T72, X72, e72, st72⟩ := callPure X71 hx hZ (y := (⟨"com/example/proxysmith/proxysmith/BytesToByteArrayPinLaw", "same", "([B[BII)Z"⟩ : MethodName)) hown (hw _ (List.mem_of_getElem? (i := 48) rfl)) (hw _ (List.mem_of_getElem? (i := 49) rfl)) (hw _ (List.mem_of_getElem? (i := 50) rfl)) (hw _ (List.mem_of_getElem? (i := 51) rfl)) (by decide) (W := 0) (argsL := [(.ref r66), (.ref b63), (.int (1 : Int32)), (.int (5 : Int32))]) (rest := []) (r := (.int (1 : Int32))) (fun _ _ _ q => q) (rm10a l Z a0 hw [] r66 b63 (1 : Int32) (5 : Int32) h66 n0 z_66 (by decide)) (by decide) (by decide) (by decide) (by decide) e71 (g := (mkF m 284 #[.val (.int p1), .val (.int p2), .val (.int p3), .val (.int p4), .val (.int p5), .val (.int (Int32.ofNat n)), .val (.int (1 : Int32)), .val (.int (0 : Int32)), .val (.int (0 : Int32)), .val (.ref b61), .val (.ref b63), .val (.int (1 : Int32)), .val (.ref r66)] [(.int (5 : Int32)), (.int (1 : Int32)), (.ref b63), (.ref r66)])) rfl (by rw [hml]; rfl) (lenOf pd_0_2 rfl) rfl (by show 2 * 0 + _ ≤ _; exact Nat.le_of_eq rfl) (hb hby at_284)
          refine Goes.step st72 ?_
          show Goes p e below s _ _ _ T72 (mkF m 287 #[.val (.int p1), .val (.int p2), .val (.int p3), .val (.int p4), .val (.int p5), .val (.int (Int32.ofNat n)), .val (.int (1 : Int32)), .val (.int (0 : Int32)), .val (.int (0 : Int32)), .val (.ref b61), .val (.ref b63), .val (.int (1 : Int32)), .val (.ref r66)] [(.int (1 : Int32))])
          refine Goes.step (fun _ k => XS.ifNo X72.here hx rfl (hb hby at_287) rfl ((if0 _ _).trans (feq (by decide : ¬ ((1 : Int32) = (0 : Int32)))).1) k) ?_
          show Goes p e below s _ _ _ T72 (mkF m 290 #[.val (.int p1), .val (.int p2), .val (.int p3), .val (.int p4), .val (.int p5), .val (.int (Int32.ofNat n)), .val (.int (1 : Int32)), .val (.int (0 : Int32)), .val (.int (0 : Int32)), .val (.ref b61), .val (.ref b63), .val (.int (1 : Int32)), .val (.ref r66)] [])
          refine Goes.step (fun _ k => XS.aload X72.here hx rfl (hb hby at_290) rfl rfl k) ?_
          show Goes p e below s _ _ _ T72 (mkF m 292 #[.val (.int p1), .val (.int p2), .val (.int p3), .val (.int p4), .val (.int p5), .val (.int (Int32.ofNat n)), .val (.int (1 : Int32)), .val (.int (0 : Int32)), .val (.int (0 : Int32)), .val (.ref b61), .val (.ref b63), .val (.int (1 : Int32)), .val (.ref r66)] [(.ref r66)])
          refine Goes.step (fun _ k => XS.aload X72.here hx rfl (hb hby at_292) rfl rfl k) ?_
          show Goes p e below s _ _ _ T72 (mkF m 294 #[.val (.int p1), .val (.int p2), .val (.int p3), .val (.int p4), .val (.int p5), .val (.int (Int32.ofNat n)), .val (.int (1 : Int32)), .val (.int (0 : Int32)), .val (.int (0 : Int32)), .val (.ref b61), .val (.ref b63), .val (.int (1 : Int32)), .val (.ref r66)] [(.ref b63), (.ref r66)])
          refine Goes.step (fun _ k => XS.iload X72.here hx rfl (hb hby at_294) rfl k) ?_
          show Goes p e below s _ _ _ T72 (mkF m 296 #[.val (.int p1), .val (.int p2), .val (.int p3), .val (.int p4), .val (.int p5), .val (.int (Int32.ofNat n)), .val (.int (1 : Int32)), .val (.int (0 : Int32)), .val (.int (0 : Int32)), .val (.ref b61), .val (.ref b63), .val (.int (1 : Int32)), .val (.ref r66)] [(.int (1 : Int32)), (.ref b63), (.ref r66)])
          refine Goes.step (fun _ k => XS.bipush X72.here hx rfl (hb hby at_296) k) ?_
          show Goes p e below s _ _ _ T72 (mkF m 298 #[.val (.int p1), .val (.int p2), .val (.int p3), .val (.int p4), .val (.int p5), .val (.int (Int32.ofNat n)), .val (.int (1 : Int32)), .val (.int (0 : Int32)), .val (.int (0 : Int32)), .val (.ref b61), .val (.ref b63), .val (.int (1 : Int32)), .val (.ref r66)] [(.int (6 : Int32)), (.int (1 : Int32)), (.ref b63), (.ref r66)])
          obtain ⟨T73, X73, e73, st73⟩ := callPure X72 hx hZ (y := (⟨"com/example/proxysmith/proxysmith/BytesToByteArrayPinLaw", "same", "([B[BII)Z"⟩ : MethodName)) hown (hw _ (List.mem_of_getElem? (i := 48) rfl)) (hw _ (List.mem_of_getElem? (i := 49) rfl)) (hw _ (List.mem_of_getElem? (i := 50) rfl)) (hw _ (List.mem_of_getElem? (i := 51) rfl)) (by decide) (W := 0) (argsL := [(.ref r66), (.ref b63), (.int (1 : Int32)), (.int (6 : Int32))]) (rest := []) (r := (.int (1 : Int32))) (fun _ _ _ q => q) (rm10a l Z a0 hw [] r66 b63 (1 : Int32) (6 : Int32) h66 n0 z_66 (by decide)) (by decide) (by decide) (by decide) (by decide) e72 (g := (mkF m 298 #[.val (.int p1), .val (.int p2), .val (.int p3), .val (.int p4), .val (.int p5), .val (.int (Int32.ofNat n)), .val (.int (1 : Int32)), .val (.int (0 : Int32)), .val (.int (0 : Int32)), .val (.ref b61), .val (.ref b63), .val (.int (1 : Int32)), .val (.ref r66)] [(.int (6 : Int32)), (.int (1 : Int32)), (.ref b63), (.ref r66)])) rfl (by rw [hml]; rfl) (lenOf pd_0_2 rfl) rfl (by show 2 * 0 + _ ≤ _; exact Nat.le_of_eq rfl) (hb hby at_298)
          refine Goes.step st73 ?_
          show Goes p e below s _ _ _ T73 (mkF m 301 #[.val (.int p1), .val (.int p2), .val (.int p3), .val (.int p4), .val (.int p5), .val (.int (Int32.ofNat n)), .val (.int (1 : Int32)), .val (.int (0 : Int32)), .val (.int (0 : Int32)), .val (.ref b61), .val (.ref b63), .val (.int (1 : Int32)), .val (.ref r66)] [(.int (1 : Int32))])
          refine Goes.step (fun _ k => XS.ifNo X73.here hx rfl (hb hby at_301) rfl ((if0 _ _).trans (feq (by decide : ¬ ((1 : Int32) = (0 : Int32)))).1) k) ?_
          show Goes p e below s _ _ _ T73 (mkF m 304 #[.val (.int p1), .val (.int p2), .val (.int p3), .val (.int p4), .val (.int p5), .val (.int (Int32.ofNat n)), .val (.int (1 : Int32)), .val (.int (0 : Int32)), .val (.int (0 : Int32)), .val (.ref b61), .val (.ref b63), .val (.int (1 : Int32)), .val (.ref r66)] [])
          refine Goes.step (fun _ k => XS.iconst X73.here hx rfl (hb hby at_304) k) ?_
          show Goes p e below s _ _ _ T73 (mkF m 305 #[.val (.int p1), .val (.int p2), .val (.int p3), .val (.int p4), .val (.int p5), .val (.int (Int32.ofNat n)), .val (.int (1 : Int32)), .val (.int (0 : Int32)), .val (.int (0 : Int32)), .val (.ref b61), .val (.ref b63), .val (.int (1 : Int32)), .val (.ref r66)] [(.int (1 : Int32))])
          refine Goes.step (fun _ k => XS.goto X73.here hx rfl (pc0 := 305) (pc' := 309) rfl (hb hby at_305) (by decide) (by decide) k) ?_
          show Goes p e below s _ _ _ T73 (mkF m 309 #[.val (.int p1), .val (.int p2), .val (.int p3), .val (.int p4), .val (.int p5), .val (.int (Int32.ofNat n)), .val (.int (1 : Int32)), .val (.int (0 : Int32)), .val (.int (0 : Int32)), .val (.ref b61), .val (.ref b63), .val (.int (1 : Int32)), .val (.ref r66)] [(.int (1 : Int32))])
          exact Goes.outN X73 hx hlk (t := .boolean) Bd.returns (by simp) (hb hby at_309) ⟨rfl, N_66⟩ (by decide) (by decide)
      · refine Goes.step (fun _ k => XS.ifNo X0.here hx rfl (hb hby at_35) rfl ((if0 _ _).trans (feq hc35).1) k) ?_
        show Goes p e below s _ _ _ s₁ (mkF m 38 #[.val (.int p1), .val (.int p2), .val (.int p3), .val (.int p4), .val (.int p5), .val (.int (Int32.ofNat n)), .val (.int (1 : Int32)), .val (.int (0 : Int32)), .unset, .unset, .unset, .unset, .unset] [])
        refine Goes.step (fun _ k => XS.iconst X0.here hx rfl (hb hby at_38) k) ?_
        show Goes p e below s _ _ _ s₁ (mkF m 39 #[.val (.int p1), .val (.int p2), .val (.int p3), .val (.int p4), .val (.int p5), .val (.int (Int32.ofNat n)), .val (.int (1 : Int32)), .val (.int (0 : Int32)), .unset, .unset, .unset, .unset, .unset] [(.int (1 : Int32))])
        refine Goes.step (fun _ k => XS.goto X0.here hx rfl (pc0 := 39) (pc' := 43) rfl (hb hby at_39) (by decide) (by decide) k) ?_
        show Goes p e below s _ _ _ s₁ (mkF m 43 #[.val (.int p1), .val (.int p2), .val (.int p3), .val (.int p4), .val (.int p5), .val (.int (Int32.ofNat n)), .val (.int (1 : Int32)), .val (.int (0 : Int32)), .unset, .unset, .unset, .unset, .unset] [(.int (1 : Int32))])
        refine Goes.step (fun _ k => XS.istore X0.here hx rfl (hb hby at_43) rfl (l' := #[.val (.int p1), .val (.int p2), .val (.int p3), .val (.int p4), .val (.int p5), .val (.int (Int32.ofNat n)), .val (.int (1 : Int32)), .val (.int (0 : Int32)), .val (.int (1 : Int32)), .unset, .unset, .unset, .unset]) rfl k) ?_
        show Goes p e below s _ _ _ s₁ (mkF m 45 #[.val (.int p1), .val (.int p2), .val (.int p3), .val (.int p4), .val (.int p5), .val (.int (Int32.ofNat n)), .val (.int (1 : Int32)), .val (.int (0 : Int32)), .val (.int (1 : Int32)), .unset, .unset, .unset, .unset] [])
        obtain ⟨T74, h74, X74, e74, E74, A74, D74, -, st74⟩ := newO X0 hx hZ hown (hw _ (List.mem_of_getElem? (i := 0) rfl)) (hw _ (List.mem_of_getElem? (i := 1) rfl)) (hw _ (List.mem_of_getElem? (i := 2) rfl)) e0 (g := (mkF m 45 #[.val (.int p1), .val (.int p2), .val (.int p3), .val (.int p4), .val (.int p5), .val (.int (Int32.ofNat n)), .val (.int (1 : Int32)), .val (.int (0 : Int32)), .val (.int (1 : Int32)), .unset, .unset, .unset, .unset] [])) rfl (hb hby at_45) (by decide) (by decide)
        obtain ⟨b74, g_74⟩ : ∃ z, z = h0.size := ⟨_, rfl⟩
        rw [← g_74] at A74 D74 st74
        refine Goes.step st74 ?_
        have ge_b74 : n0 ≤ b74 := by rw [g_74]; exact Z0
        have sz_b74 : h0.size ≤ b74 := by rw [g_74]; exact K0.1
        have z_74 : n0 ≤ h74.size := Nat.le_trans Z0 E74.1
        have K_74 : Keep h0 h74 [] := K0.ext E74
        have E_b74_74 : Exa Z h74 b74 "com/example/proxysmith/proxysmith/ClassFileWriter$Bytes" := A74
        have F_b74_bytes_74 : Fld Z h74 b74 "com/example/proxysmith/proxysmith/ClassFileWriter$Bytes" "bytes" "[B" .null := D74 (Or.inl (hw _ (List.mem_of_getElem? (i := 11) rfl))) (ty := (.array .byte)) (by decide)
        have F_b74_size_74 : Fld Z h74 b74 "com/example/proxysmith/proxysmith/ClassFileWriter$Bytes" "size" "I" (.int (0 : Int32)) := D74 (Or.inl (hw _ (List.mem_of_getElem? (i := 22) rfl))) (ty := .int) (by decide)
        show Goes p e below s _ _ _ T74 (mkF m 48 #[.val (.int p1), .val (.int p2), .val (.int p3), .val (.int p4), .val (.int p5), .val (.int (Int32.ofNat n)), .val (.int (1 : Int32)), .val (.int (0 : Int32)), .val (.int (1 : Int32)), .unset, .unset, .unset, .unset] [(.ref b74)])
        refine Goes.step (fun _ k => XS.dup X74.here hx rfl (hb hby at_48) rfl rfl k) ?_
        show Goes p e below s _ _ _ T74 (mkF m 49 #[.val (.int p1), .val (.int p2), .val (.int p3), .val (.int p4), .val (.int p5), .val (.int (Int32.ofNat n)), .val (.int (1 : Int32)), .val (.int (0 : Int32)), .val (.int (1 : Int32)), .unset, .unset, .unset, .unset] [(.ref b74), (.ref b74)])
        refine Goes.step (fun _ k => XS.iload X74.here hx rfl (hb hby at_49) rfl k) ?_
        show Goes p e below s _ _ _ T74 (mkF m 51 #[.val (.int p1), .val (.int p2), .val (.int p3), .val (.int p4), .val (.int p5), .val (.int (Int32.ofNat n)), .val (.int (1 : Int32)), .val (.int (0 : Int32)), .val (.int (1 : Int32)), .unset, .unset, .unset, .unset] [(.int (Int32.ofNat n)), (.ref b74), (.ref b74)])
        obtain ⟨v75, T75, h75, L75, X75, e75, Q75, st75⟩ := callXI X74 hx hZ (b := b74) (y := (⟨"com/example/proxysmith/proxysmith/ClassFileWriter$Bytes", "<init>", "(I)V"⟩ : MethodName)) hown rfl (hw _ (List.mem_of_getElem? (i := 3) rfl)) (hw _ (List.mem_of_getElem? (i := 4) rfl)) (hw _ (List.mem_of_getElem? (i := 5) rfl)) (hw _ (List.mem_of_getElem? (i := 2) rfl)) (by decide) (W := 1) (argsL := [(.int (Int32.ofNat n))]) (rest := [(.ref b74)]) (rm1 l Z a0 hw [] b74 n h74 n0 z_74 E_b74_74 F_b74_bytes_74 F_b74_size_74 ge_b74 hn) (by decide) (by decide) (by decide) (by decide) e74 (g := (mkF m 51 #[.val (.int p1), .val (.int p2), .val (.int p3), .val (.int p4), .val (.int p5), .val (.int (Int32.ofNat n)), .val (.int (1 : Int32)), .val (.int (0 : Int32)), .val (.int (1 : Int32)), .unset, .unset, .unset, .unset] [(.int (Int32.ofNat n)), (.ref b74), (.ref b74)])) rfl (by rw [hml]; rfl) (lenOf pd_0_0 rfl) rfl (by show 2 * 0 + _ ≤ _; exact Nat.le_of_eq rfl) (hb hby at_51)
        obtain ⟨b75, rfl, NQ75, KQ75, hE75, hFb75, hFs75, hA75, hab75, hg75, hb75⟩ := Q75
        refine Goes.step st75 ?_
        have E_b74_75 := E_b74_74.keep KQ75
        have z_75 : n0 ≤ h75.size := Nat.le_trans z_74 KQ75.1
        have K_75 : Keep h0 h75 [] := Keep.trans K_74 KQ75 (allS (Or.inr sz_b74) all0)
        have N_75 := Fr.app N0 NQ75
        show Goes p e below s _ _ _ T75 (mkF m 54 #[.val (.int p1), .val (.int p2), .val (.int p3), .val (.int p4), .val (.int p5), .val (.int (Int32.ofNat n)), .val (.int (1 : Int32)), .val (.int (0 : Int32)), .val (.int (1 : Int32)), .unset, .unset, .unset, .unset] [(.ref b74)])
        refine Goes.step (fun _ k => XS.astore X75.here hx rfl (hb hby at_54) rfl rfl (l' := #[.val (.int p1), .val (.int p2), .val (.int p3), .val (.int p4), .val (.int p5), .val (.int (Int32.ofNat n)), .val (.int (1 : Int32)), .val (.int (0 : Int32)), .val (.int (1 : Int32)), .val (.ref b74), .unset, .unset, .unset]) rfl k) ?_
        show Goes p e below s _ _ _ T75 (mkF m 56 #[.val (.int p1), .val (.int p2), .val (.int p3), .val (.int p4), .val (.int p5), .val (.int (Int32.ofNat n)), .val (.int (1 : Int32)), .val (.int (0 : Int32)), .val (.int (1 : Int32)), .val (.ref b74), .unset, .unset, .unset] [])
        refine Goes.step (fun _ k => XS.bipush X75.here hx rfl (hb hby at_56) k) ?_
        show Goes p e below s _ _ _ T75 (mkF m 58 #[.val (.int p1), .val (.int p2), .val (.int p3), .val (.int p4), .val (.int p5), .val (.int (Int32.ofNat n)), .val (.int (1 : Int32)), .val (.int (0 : Int32)), .val (.int (1 : Int32)), .val (.ref b74), .unset, .unset, .unset] [(.int (7 : Int32))])
        obtain ⟨T76, h76, X76, e76, E76, A76, st76⟩ := newI X75 hx hZ (hw _ (List.mem_of_getElem? (i := 9) rfl)) e75 (g := (mkF m 58 #[.val (.int p1), .val (.int p2), .val (.int p3), .val (.int p4), .val (.int p5), .val (.int (Int32.ofNat n)), .val (.int (1 : Int32)), .val (.int (0 : Int32)), .val (.int (1 : Int32)), .val (.ref b74), .unset, .unset, .unset] [(.int (7 : Int32))])) rfl (hb hby at_58) rfl (N := 7) rfl (cap := 7) (by decide) (by decide) (by decide) (by decide) rfl (by decide)
        obtain ⟨b76, g_76⟩ : ∃ z, z = h75.size := ⟨_, rfl⟩
        rw [← g_76] at A76 st76
        refine Goes.step st76 ?_
        have ne_b74_b76 : b74 ≠ b76 := Nat.ne_of_lt (by rw [g_76]; exact hE75.lt)
        have ne_b75_b76 : b75 ≠ b76 := Nat.ne_of_lt (by rw [g_76]; exact hA75.lt)
        have ge_b76 : n0 ≤ b76 := by rw [g_76]; exact z_75
        have sz_b76 : h0.size ≤ b76 := by rw [g_76]; exact K_75.1
        have hE75_76 := hE75.ext E76
        have hFb75_76 := hFb75.ext E76
        have hFs75_76 := hFs75.ext E76
        have hA75_76 := hA75.ext E76
        have z_76 : n0 ≤ h76.size := Nat.le_trans z_75 E76.1
        have K_76 : Keep h0 h76 [] := K_75.ext E76
        have A_b76_76 : Ari Z h76 b76 .byte (7) (fun _ => 0) := A76
        show Goes p e below s _ _ _ T76 (mkF m 60 #[.val (.int p1), .val (.int p2), .val (.int p3), .val (.int p4), .val (.int p5), .val (.int (Int32.ofNat n)), .val (.int (1 : Int32)), .val (.int (0 : Int32)), .val (.int (1 : Int32)), .val (.ref b74), .unset, .unset, .unset] [(.ref b76)])
        refine Goes.step (fun _ k => XS.astore X76.here hx rfl (hb hby at_60) rfl rfl (l' := #[.val (.int p1), .val (.int p2), .val (.int p3), .val (.int p4), .val (.int p5), .val (.int (Int32.ofNat n)), .val (.int (1 : Int32)), .val (.int (0 : Int32)), .val (.int (1 : Int32)), .val (.ref b74), .val (.ref b76), .unset, .unset]) rfl k) ?_
        show Goes p e below s _ _ _ T76 (mkF m 62 #[.val (.int p1), .val (.int p2), .val (.int p3), .val (.int p4), .val (.int p5), .val (.int (Int32.ofNat n)), .val (.int (1 : Int32)), .val (.int (0 : Int32)), .val (.int (1 : Int32)), .val (.ref b74), .val (.ref b76), .unset, .unset] [])
        refine Goes.step (fun _ k => XS.iconst X76.here hx rfl (hb hby at_62) k) ?_
        show Goes p e below s _ _ _ T76 (mkF m 63 #[.val (.int p1), .val (.int p2), .val (.int p3), .val (.int p4), .val (.int p5), .val (.int (Int32.ofNat n)), .val (.int (1 : Int32)), .val (.int (0 : Int32)), .val (.int (1 : Int32)), .val (.ref b74), .val (.ref b76), .unset, .unset] [(.int (0 : Int32))])
        refine Goes.step (fun _ k => XS.istore X76.here hx rfl (hb hby at_63) rfl (l' := #[.val (.int p1), .val (.int p2), .val (.int p3), .val (.int p4), .val (.int p5), .val (.int (Int32.ofNat n)), .val (.int (1 : Int32)), .val (.int (0 : Int32)), .val (.int (1 : Int32)), .val (.ref b74), .val (.ref b76), .val (.int (0 : Int32)), .unset]) rfl k) ?_
        show Goes p e below s _ _ _ T76 (mkF m 65 #[.val (.int p1), .val (.int p2), .val (.int p3), .val (.int p4), .val (.int p5), .val (.int (Int32.ofNat n)), .val (.int (1 : Int32)), .val (.int (0 : Int32)), .val (.int (1 : Int32)), .val (.ref b74), .val (.ref b76), .val (.int (0 : Int32)), .unset] [])
        refine Goes.step (fun _ k => XS.iload X76.here hx rfl (hb hby at_65) rfl k) ?_
        show Goes p e below s _ _ _ T76 (mkF m 67 #[.val (.int p1), .val (.int p2), .val (.int p3), .val (.int p4), .val (.int p5), .val (.int (Int32.ofNat n)), .val (.int (1 : Int32)), .val (.int (0 : Int32)), .val (.int (1 : Int32)), .val (.ref b74), .val (.ref b76), .val (.int (0 : Int32)), .unset] [(.int (1 : Int32))])
        refine Goes.step (fun _ k => XS.ifNo X76.here hx rfl (hb hby at_67) rfl ((if0 _ _).trans (feq (by decide : ¬ ((1 : Int32) = (0 : Int32)))).1) k) ?_
        show Goes p e below s _ _ _ T76 (mkF m 70 #[.val (.int p1), .val (.int p2), .val (.int p3), .val (.int p4), .val (.int p5), .val (.int (Int32.ofNat n)), .val (.int (1 : Int32)), .val (.int (0 : Int32)), .val (.int (1 : Int32)), .val (.ref b74), .val (.ref b76), .val (.int (0 : Int32)), .unset] [])
        refine Goes.step (fun _ k => XS.aload X76.here hx rfl (hb hby at_70) rfl rfl k) ?_
        show Goes p e below s _ _ _ T76 (mkF m 72 #[.val (.int p1), .val (.int p2), .val (.int p3), .val (.int p4), .val (.int p5), .val (.int (Int32.ofNat n)), .val (.int (1 : Int32)), .val (.int (0 : Int32)), .val (.int (1 : Int32)), .val (.ref b74), .val (.ref b76), .val (.int (0 : Int32)), .unset] [(.ref b76)])
        refine Goes.step (fun _ k => XS.iload X76.here hx rfl (hb hby at_72) rfl k) ?_
        show Goes p e below s _ _ _ T76 (mkF m 74 #[.val (.int p1), .val (.int p2), .val (.int p3), .val (.int p4), .val (.int p5), .val (.int (Int32.ofNat n)), .val (.int (1 : Int32)), .val (.int (0 : Int32)), .val (.int (1 : Int32)), .val (.ref b74), .val (.ref b76), .val (.int (0 : Int32)), .unset] [(.int (0 : Int32)), (.ref b76)])
        refine Goes.step (fun _ k => XS.iloadN X76.here hx rfl (hb hby at_74) rfl k) ?_
        show Goes p e below s _ _ _ T76 (mkF m 75 #[.val (.int p1), .val (.int p2), .val (.int p3), .val (.int p4), .val (.int p5), .val (.int (Int32.ofNat n)), .val (.int (1 : Int32)), .val (.int (0 : Int32)), .val (.int (1 : Int32)), .val (.ref b74), .val (.ref b76), .val (.int (0 : Int32)), .unset] [(.int p3), (.int (0 : Int32)), (.ref b76)])
        refine Goes.step (fun _ k => XS.i2b X76.here hx rfl (hb hby at_75) rfl k) ?_
        show Goes p e below s _ _ _ T76 (mkF m 76 #[.val (.int p1), .val (.int p2), .val (.int p3), .val (.int p4), .val (.int p5), .val (.int (Int32.ofNat n)), .val (.int (1 : Int32)), .val (.int (0 : Int32)), .val (.int (1 : Int32)), .val (.ref b74), .val (.ref b76), .val (.int (0 : Int32)), .unset] [(.int (p3.toInt8.toInt32)), (.int (0 : Int32)), (.ref b76)])
        obtain ⟨T77, h77, X77, e77, W77, A77, st77⟩ := stoB X76 hx hZ e76 A_b76_76 (0) rfl (by decide) (g := (mkF m 76 #[.val (.int p1), .val (.int p2), .val (.int p3), .val (.int p4), .val (.int p5), .val (.int (Int32.ofNat n)), .val (.int (1 : Int32)), .val (.int (0 : Int32)), .val (.int (1 : Int32)), .val (.ref b74), .val (.ref b76), .val (.int (0 : Int32)), .unset] [(.int (p3.toInt8.toInt32)), (.int (0 : Int32)), (.ref b76)])) rfl rfl (hb hby at_76)
        refine Goes.step st77 ?_
        have hE75_77 := hE75_76.wr W77
        have hFb75_77 := hFb75_76.other W77 (Or.inl ne_b74_b76)
        have hFs75_77 := hFs75_76.other W77 (Or.inl ne_b74_b76)
        have hA75_77 := hA75_76.other W77 ne_b75_b76
        have z_77 : n0 ≤ h77.size := by rw [W77.size]; exact z_76
        have K_77 : Keep h0 h77 [] := K_76.wr W77 (Or.inr sz_b76)
        have N_77 := Fr.snoc X77 N_75 ge_b76
        have A_b76_77 : Ari Z h77 b76 .byte (7) (updI (fun _ => 0) (0) ((p3.toInt8.toInt32).toInt8.toInt32)) := A77
        show Goes p e below s _ _ _ T77 (mkF m 77 #[.val (.int p1), .val (.int p2), .val (.int p3), .val (.int p4), .val (.int p5), .val (.int (Int32.ofNat n)), .val (.int (1 : Int32)), .val (.int (0 : Int32)), .val (.int (1 : Int32)), .val (.ref b74), .val (.ref b76), .val (.int (0 : Int32)), .unset] [])
        refine Goes.step (fun _ k => XS.iload X77.here hx rfl (hb hby at_77) rfl k) ?_
        show Goes p e below s _ _ _ T77 (mkF m 79 #[.val (.int p1), .val (.int p2), .val (.int p3), .val (.int p4), .val (.int p5), .val (.int (Int32.ofNat n)), .val (.int (1 : Int32)), .val (.int (0 : Int32)), .val (.int (1 : Int32)), .val (.ref b74), .val (.ref b76), .val (.int (0 : Int32)), .unset] [(.int (0 : Int32))])
        refine Goes.step (fun _ k => XS.iconst X77.here hx rfl (hb hby at_79) k) ?_
        show Goes p e below s _ _ _ T77 (mkF m 80 #[.val (.int p1), .val (.int p2), .val (.int p3), .val (.int p4), .val (.int p5), .val (.int (Int32.ofNat n)), .val (.int (1 : Int32)), .val (.int (0 : Int32)), .val (.int (1 : Int32)), .val (.ref b74), .val (.ref b76), .val (.int (0 : Int32)), .unset] [(.int (1 : Int32)), (.int (0 : Int32))])
        refine Goes.step (fun _ k => XS.iadd X77.here hx rfl (hb hby at_80) rfl k) ?_
        show Goes p e below s _ _ _ T77 (mkF m 81 #[.val (.int p1), .val (.int p2), .val (.int p3), .val (.int p4), .val (.int p5), .val (.int (Int32.ofNat n)), .val (.int (1 : Int32)), .val (.int (0 : Int32)), .val (.int (1 : Int32)), .val (.ref b74), .val (.ref b76), .val (.int (0 : Int32)), .unset] [(.int (1 : Int32))])
        refine Goes.step (fun _ k => XS.istore X77.here hx rfl (hb hby at_81) rfl (l' := #[.val (.int p1), .val (.int p2), .val (.int p3), .val (.int p4), .val (.int p5), .val (.int (Int32.ofNat n)), .val (.int (1 : Int32)), .val (.int (0 : Int32)), .val (.int (1 : Int32)), .val (.ref b74), .val (.ref b76), .val (.int (1 : Int32)), .unset]) rfl k) ?_
        show Goes p e below s _ _ _ T77 (mkF m 83 #[.val (.int p1), .val (.int p2), .val (.int p3), .val (.int p4), .val (.int p5), .val (.int (Int32.ofNat n)), .val (.int (1 : Int32)), .val (.int (0 : Int32)), .val (.int (1 : Int32)), .val (.ref b74), .val (.ref b76), .val (.int (1 : Int32)), .unset] [])
        refine Goes.step (fun _ k => XS.aload X77.here hx rfl (hb hby at_83) rfl rfl k) ?_
        show Goes p e below s _ _ _ T77 (mkF m 85 #[.val (.int p1), .val (.int p2), .val (.int p3), .val (.int p4), .val (.int p5), .val (.int (Int32.ofNat n)), .val (.int (1 : Int32)), .val (.int (0 : Int32)), .val (.int (1 : Int32)), .val (.ref b74), .val (.ref b76), .val (.int (1 : Int32)), .unset] [(.ref b74)])
        refine Goes.step (fun _ k => XS.iloadN X77.here hx rfl (hb hby at_85) rfl k) ?_
        show Goes p e below s _ _ _ T77 (mkF m 86 #[.val (.int p1), .val (.int p2), .val (.int p3), .val (.int p4), .val (.int p5), .val (.int (Int32.ofNat n)), .val (.int (1 : Int32)), .val (.int (0 : Int32)), .val (.int (1 : Int32)), .val (.ref b74), .val (.ref b76), .val (.int (1 : Int32)), .unset] [(.int p3), (.ref b74)])
        obtain ⟨v78, T78, h78, L78, X78, e78, Q78, st78⟩ := callXV X77 hx hZ (C := "com/example/proxysmith/proxysmith/ClassFileWriter$Bytes") (b := b74) (y := (⟨"com/example/proxysmith/proxysmith/ClassFileWriter$Bytes", "u1", "(I)V"⟩ : MethodName)) (z := (⟨"com/example/proxysmith/proxysmith/ClassFileWriter$Bytes", "u1", "(I)V"⟩ : MethodName)) hown (hw _ (List.mem_of_getElem? (i := 12) rfl)) (hw _ (List.mem_of_getElem? (i := 13) rfl)) (hw _ (List.mem_of_getElem? (i := 15) rfl)) (hw _ (List.mem_of_getElem? (i := 14) rfl)) (hw _ (List.mem_of_getElem? (i := 16) rfl)) (hw _ (List.mem_of_getElem? (i := 2) rfl)) (notFace_of_selects (args := #[]) (mvT hZ (hw _ (List.mem_of_getElem? (i := 15) rfl)))) (by decide) (W := 0) (argsL := [(.int p3)]) (rest := []) (rm3 l Z a0 hw [] b74 p3 b75 n 0 (fun _ => 0) h77 n0 z_77 hE75_77 hFb75_77 hFs75_77 hA75_77 hab75 ge_b74 hg75 (Nat.zero_le n) (Nat.le_trans hn (by decide)) (by omega)) (by decide) (by decide) (by decide) (by decide) e77 hE75_77 (g := (mkF m 86 #[.val (.int p1), .val (.int p2), .val (.int p3), .val (.int p4), .val (.int p5), .val (.int (Int32.ofNat n)), .val (.int (1 : Int32)), .val (.int (0 : Int32)), .val (.int (1 : Int32)), .val (.ref b74), .val (.ref b76), .val (.int (1 : Int32)), .unset] [(.int p3), (.ref b74)])) rfl (by rw [hml]; rfl) (lenOf pd_0_0 rfl) rfl (by show 2 * 0 + _ ≤ _; exact Nat.le_of_eq rfl) (hb hby at_86)
        obtain ⟨b78, n78, f78, rfl, NQ78, KQ78, hE78, hFb78, hFs78, hA78, hab78, hg78, ho78, hs78, hn78, hf78, hv78⟩ := Q78
        refine Goes.step st78 ?_
        have hE75_78 := hE75_77.keep KQ78
        have A_b76_78 := A_b76_77.keep KQ78 (ninS (Ne.symm ne_b74_b76) (ninS (Ne.symm ne_b75_b76) nin0))
        have z_78 : n0 ≤ h78.size := Nat.le_trans z_77 KQ78.1
        have K_78 : Keep h0 h78 [] := Keep.trans K_77 KQ78 (allS (Or.inr sz_b74) (allS (Or.inr (Nat.le_trans K_74.1 hb75)) all0))
        have N_78 := Fr.app N_77 NQ78
        have ne_b76_b78 : b76 ≠ b78 := ho78.elim (fun q z => (Ne.symm ne_b75_b76) (z.trans q)) (fun q => Nat.ne_of_lt (Nat.lt_of_lt_of_le A_b76_77.lt q))
        have mem_b78 : b78 ∈ [] ∨ h0.size ≤ b78 := ho78.elim (fun q => q ▸ (Or.inr (Nat.le_trans K_74.1 hb75))) (fun q => Or.inr (Nat.le_trans K_77.1 q))
        show Goes p e below s _ _ _ T78 (mkF m 89 #[.val (.int p1), .val (.int p2), .val (.int p3), .val (.int p4), .val (.int p5), .val (.int (Int32.ofNat n)), .val (.int (1 : Int32)), .val (.int (0 : Int32)), .val (.int (1 : Int32)), .val (.ref b74), .val (.ref b76), .val (.int (1 : Int32)), .unset] [])
        refine Goes.step (fun _ k => XS.iload X78.here hx rfl (hb hby at_89) rfl k) ?_
        show Goes p e below s _ _ _ T78 (mkF m 91 #[.val (.int p1), .val (.int p2), .val (.int p3), .val (.int p4), .val (.int p5), .val (.int (Int32.ofNat n)), .val (.int (1 : Int32)), .val (.int (0 : Int32)), .val (.int (1 : Int32)), .val (.ref b74), .val (.ref b76), .val (.int (1 : Int32)), .unset] [(.int (0 : Int32))])
        refine Goes.step (fun _ k => XS.ifYes X78.here hx rfl (pc0 := 91) (pc' := 125) rfl (hb hby at_91) rfl ((if0 _ _).trans (teq (by decide : (0 : Int32) = (0 : Int32))).1) (by decide) (by decide) k) ?_
        show Goes p e below s _ _ _ T78 (mkF m 125 #[.val (.int p1), .val (.int p2), .val (.int p3), .val (.int p4), .val (.int p5), .val (.int (Int32.ofNat n)), .val (.int (1 : Int32)), .val (.int (0 : Int32)), .val (.int (1 : Int32)), .val (.ref b74), .val (.ref b76), .val (.int (1 : Int32)), .unset] [])
        refine Goes.step (fun _ k => XS.iload X78.here hx rfl (hb hby at_125) rfl k) ?_
        show Goes p e below s _ _ _ T78 (mkF m 127 #[.val (.int p1), .val (.int p2), .val (.int p3), .val (.int p4), .val (.int p5), .val (.int (Int32.ofNat n)), .val (.int (1 : Int32)), .val (.int (0 : Int32)), .val (.int (1 : Int32)), .val (.ref b74), .val (.ref b76), .val (.int (1 : Int32)), .unset] [(.int (1 : Int32))])
        refine Goes.step (fun _ k => XS.ifNo X78.here hx rfl (hb hby at_127) rfl ((if0 _ _).trans (feq (by decide : ¬ ((1 : Int32) = (0 : Int32)))).1) k) ?_
        show Goes p e below s _ _ _ T78 (mkF m 130 #[.val (.int p1), .val (.int p2), .val (.int p3), .val (.int p4), .val (.int p5), .val (.int (Int32.ofNat n)), .val (.int (1 : Int32)), .val (.int (0 : Int32)), .val (.int (1 : Int32)), .val (.ref b74), .val (.ref b76), .val (.int (1 : Int32)), .unset] [])
        refine Goes.step (fun _ k => XS.aload X78.here hx rfl (hb hby at_130) rfl rfl k) ?_
        show Goes p e below s _ _ _ T78 (mkF m 132 #[.val (.int p1), .val (.int p2), .val (.int p3), .val (.int p4), .val (.int p5), .val (.int (Int32.ofNat n)), .val (.int (1 : Int32)), .val (.int (0 : Int32)), .val (.int (1 : Int32)), .val (.ref b74), .val (.ref b76), .val (.int (1 : Int32)), .unset] [(.ref b76)])
        refine Goes.step (fun _ k => XS.iload X78.here hx rfl (hb hby at_132) rfl k) ?_
        show Goes p e below s _ _ _ T78 (mkF m 134 #[.val (.int p1), .val (.int p2), .val (.int p3), .val (.int p4), .val (.int p5), .val (.int (Int32.ofNat n)), .val (.int (1 : Int32)), .val (.int (0 : Int32)), .val (.int (1 : Int32)), .val (.ref b74), .val (.ref b76), .val (.int (1 : Int32)), .unset] [(.int (1 : Int32)), (.ref b76)])
        refine Goes.step (fun _ k => XS.iload X78.here hx rfl (hb hby at_134) rfl k) ?_
        show Goes p e below s _ _ _ T78 (mkF m 136 #[.val (.int p1), .val (.int p2), .val (.int p3), .val (.int p4), .val (.int p5), .val (.int (Int32.ofNat n)), .val (.int (1 : Int32)), .val (.int (0 : Int32)), .val (.int (1 : Int32)), .val (.ref b74), .val (.ref b76), .val (.int (1 : Int32)), .unset] [(.int p5), (.int (1 : Int32)), (.ref b76)])
        refine Goes.step (fun _ k => XS.bipush X78.here hx rfl (hb hby at_136) k) ?_
        show Goes p e below s _ _ _ T78 (mkF m 138 #[.val (.int p1), .val (.int p2), .val (.int p3), .val (.int p4), .val (.int p5), .val (.int (Int32.ofNat n)), .val (.int (1 : Int32)), .val (.int (0 : Int32)), .val (.int (1 : Int32)), .val (.ref b74), .val (.ref b76), .val (.int (1 : Int32)), .unset] [(.int (24 : Int32)), (.int p5), (.int (1 : Int32)), (.ref b76)])
        refine Goes.step (fun _ k => XS.iushr X78.here hx rfl (hb hby at_138) rfl k) ?_
        show Goes p e below s _ _ _ T78 (mkF m 139 #[.val (.int p1), .val (.int p2), .val (.int p3), .val (.int p4), .val (.int p5), .val (.int (Int32.ofNat n)), .val (.int (1 : Int32)), .val (.int (0 : Int32)), .val (.int (1 : Int32)), .val (.ref b74), .val (.ref b76), .val (.int (1 : Int32)), .unset] [(.int ((p5.toUInt32 >>> ((24 : Int32) &&& 31).toUInt32).toInt32)), (.int (1 : Int32)), (.ref b76)])
        refine Goes.step (fun _ k => XS.i2b X78.here hx rfl (hb hby at_139) rfl k) ?_
        show Goes p e below s _ _ _ T78 (mkF m 140 #[.val (.int p1), .val (.int p2), .val (.int p3), .val (.int p4), .val (.int p5), .val (.int (Int32.ofNat n)), .val (.int (1 : Int32)), .val (.int (0 : Int32)), .val (.int (1 : Int32)), .val (.ref b74), .val (.ref b76), .val (.int (1 : Int32)), .unset] [(.int (((p5.toUInt32 >>> ((24 : Int32) &&& 31).toUInt32).toInt32).toInt8.toInt32)), (.int (1 : Int32)), (.ref b76)])
        obtain ⟨T79, h79, X79, e79, W79, A79, st79⟩ := stoB X78 hx hZ e78 A_b76_78 (1) rfl (by decide) (g := (mkF m 140 #[.val (.int p1), .val (.int p2), .val (.int p3), .val (.int p4), .val (.int p5), .val (.int (Int32.ofNat n)), .val (.int (1 : Int32)), .val (.int (0 : Int32)), .val (.int (1 : Int32)), .val (.ref b74), .val (.ref b76), .val (.int (1 : Int32)), .unset] [(.int (((p5.toUInt32 >>> ((24 : Int32) &&& 31).toUInt32).toInt32).toInt8.toInt32)), (.int (1 : Int32)), (.ref b76)])) rfl rfl (hb hby at_140)
        refine Goes.step st79 ?_
        have hE78_79 := hE78.wr W79
        have hFb78_79 := hFb78.other W79 (Or.inl ne_b74_b76)
        have hFs78_79 := hFs78.other W79 (Or.inl ne_b74_b76)
        have hA78_79 := hA78.other W79 (Ne.symm ne_b76_b78)
        have z_79 : n0 ≤ h79.size := by rw [W79.size]; exact z_78
        have K_79 : Keep h0 h79 [] := K_78.wr W79 (Or.inr sz_b76)
        have N_79 := Fr.snoc X79 N_78 ge_b76
        have A_b76_79 : Ari Z h79 b76 .byte (7) (updI (updI (fun _ => 0) (0) ((p3.toInt8.toInt32).toInt8.toInt32)) (1) ((((p5.toUInt32 >>> ((24 : Int32) &&& 31).toUInt32).toInt32).toInt8.toInt32).toInt8.toInt32)) := A79
        show Goes p e below s _ _ _ T79 (mkF m 141 #[.val (.int p1), .val (.int p2), .val (.int p3), .val (.int p4), .val (.int p5), .val (.int (Int32.ofNat n)), .val (.int (1 : Int32)), .val (.int (0 : Int32)), .val (.int (1 : Int32)), .val (.ref b74), .val (.ref b76), .val (.int (1 : Int32)), .unset] [])
        refine Goes.step (fun _ k => XS.aload X79.here hx rfl (hb hby at_141) rfl rfl k) ?_
        show Goes p e below s _ _ _ T79 (mkF m 143 #[.val (.int p1), .val (.int p2), .val (.int p3), .val (.int p4), .val (.int p5), .val (.int (Int32.ofNat n)), .val (.int (1 : Int32)), .val (.int (0 : Int32)), .val (.int (1 : Int32)), .val (.ref b74), .val (.ref b76), .val (.int (1 : Int32)), .unset] [(.ref b76)])
        refine Goes.step (fun _ k => XS.iload X79.here hx rfl (hb hby at_143) rfl k) ?_
        show Goes p e below s _ _ _ T79 (mkF m 145 #[.val (.int p1), .val (.int p2), .val (.int p3), .val (.int p4), .val (.int p5), .val (.int (Int32.ofNat n)), .val (.int (1 : Int32)), .val (.int (0 : Int32)), .val (.int (1 : Int32)), .val (.ref b74), .val (.ref b76), .val (.int (1 : Int32)), .unset] [(.int (1 : Int32)), (.ref b76)])
        refine Goes.step (fun _ k => XS.iconst X79.here hx rfl (hb hby at_145) k) ?_
        show Goes p e below s _ _ _ T79 (mkF m 146 #[.val (.int p1), .val (.int p2), .val (.int p3), .val (.int p4), .val (.int p5), .val (.int (Int32.ofNat n)), .val (.int (1 : Int32)), .val (.int (0 : Int32)), .val (.int (1 : Int32)), .val (.ref b74), .val (.ref b76), .val (.int (1 : Int32)), .unset] [(.int (1 : Int32)), (.int (1 : Int32)), (.ref b76)])
        refine Goes.step (fun _ k => XS.iadd X79.here hx rfl (hb hby at_146) rfl k) ?_
        show Goes p e below s _ _ _ T79 (mkF m 147 #[.val (.int p1), .val (.int p2), .val (.int p3), .val (.int p4), .val (.int p5), .val (.int (Int32.ofNat n)), .val (.int (1 : Int32)), .val (.int (0 : Int32)), .val (.int (1 : Int32)), .val (.ref b74), .val (.ref b76), .val (.int (1 : Int32)), .unset] [(.int (2 : Int32)), (.ref b76)])
        refine Goes.step (fun _ k => XS.iload X79.here hx rfl (hb hby at_147) rfl k) ?_
        show Goes p e below s _ _ _ T79 (mkF m 149 #[.val (.int p1), .val (.int p2), .val (.int p3), .val (.int p4), .val (.int p5), .val (.int (Int32.ofNat n)), .val (.int (1 : Int32)), .val (.int (0 : Int32)), .val (.int (1 : Int32)), .val (.ref b74), .val (.ref b76), .val (.int (1 : Int32)), .unset] [(.int p5), (.int (2 : Int32)), (.ref b76)])
        refine Goes.step (fun _ k => XS.bipush X79.here hx rfl (hb hby at_149) k) ?_
        show Goes p e below s _ _ _ T79 (mkF m 151 #[.val (.int p1), .val (.int p2), .val (.int p3), .val (.int p4), .val (.int p5), .val (.int (Int32.ofNat n)), .val (.int (1 : Int32)), .val (.int (0 : Int32)), .val (.int (1 : Int32)), .val (.ref b74), .val (.ref b76), .val (.int (1 : Int32)), .unset] [(.int (16 : Int32)), (.int p5), (.int (2 : Int32)), (.ref b76)])
        as_aux_lemma =>
          refine Goes.step (fun _ k => XS.iushr X79.here hx rfl (hb hby at_151) rfl k) ?_
          show Goes p e below s _ _ _ T79 (mkF m 152 #[.val (.int p1), .val (.int p2), .val (.int p3), .val (.int p4), .val (.int p5), .val (.int (Int32.ofNat n)), .val (.int (1 : Int32)), .val (.int (0 : Int32)), .val (.int (1 : Int32)), .val (.ref b74), .val (.ref b76), .val (.int (1 : Int32)), .unset] [(.int ((p5.toUInt32 >>> ((16 : Int32) &&& 31).toUInt32).toInt32)), (.int (2 : Int32)), (.ref b76)])
          refine Goes.step (fun _ k => XS.i2b X79.here hx rfl (hb hby at_152) rfl k) ?_
          show Goes p e below s _ _ _ T79 (mkF m 153 #[.val (.int p1), .val (.int p2), .val (.int p3), .val (.int p4), .val (.int p5), .val (.int (Int32.ofNat n)), .val (.int (1 : Int32)), .val (.int (0 : Int32)), .val (.int (1 : Int32)), .val (.ref b74), .val (.ref b76), .val (.int (1 : Int32)), .unset] [(.int (((p5.toUInt32 >>> ((16 : Int32) &&& 31).toUInt32).toInt32).toInt8.toInt32)), (.int (2 : Int32)), (.ref b76)])
          obtain ⟨T80, h80, X80, e80, W80, A80, st80⟩ := stoB X79 hx hZ e79 A_b76_79 (2) rfl (by decide) (g := (mkF m 153 #[.val (.int p1), .val (.int p2), .val (.int p3), .val (.int p4), .val (.int p5), .val (.int (Int32.ofNat n)), .val (.int (1 : Int32)), .val (.int (0 : Int32)), .val (.int (1 : Int32)), .val (.ref b74), .val (.ref b76), .val (.int (1 : Int32)), .unset] [(.int (((p5.toUInt32 >>> ((16 : Int32) &&& 31).toUInt32).toInt32).toInt8.toInt32)), (.int (2 : Int32)), (.ref b76)])) rfl rfl (hb hby at_153)
          refine Goes.step st80 ?_
          have hE78_80 := hE78_79.wr W80
          have hFb78_80 := hFb78_79.other W80 (Or.inl ne_b74_b76)
          have hFs78_80 := hFs78_79.other W80 (Or.inl ne_b74_b76)
          have hA78_80 := hA78_79.other W80 (Ne.symm ne_b76_b78)
          have z_80 : n0 ≤ h80.size := by rw [W80.size]; exact z_79
          have K_80 : Keep h0 h80 [] := K_79.wr W80 (Or.inr sz_b76)
          have N_80 := Fr.snoc X80 N_79 ge_b76
          have A_b76_80 : Ari Z h80 b76 .byte (7) (updI (updI (updI (fun _ => 0) (0) ((p3.toInt8.toInt32).toInt8.toInt32)) (1) ((((p5.toUInt32 >>> ((24 : Int32) &&& 31).toUInt32).toInt32).toInt8.toInt32).toInt8.toInt32)) (2) ((((p5.toUInt32 >>> ((16 : Int32) &&& 31).toUInt32).toInt32).toInt8.toInt32).toInt8.toInt32)) := A80
          show Goes p e below s _ _ _ T80 (mkF m 154 #[.val (.int p1), .val (.int p2), .val (.int p3), .val (.int p4), .val (.int p5), .val (.int (Int32.ofNat n)), .val (.int (1 : Int32)), .val (.int (0 : Int32)), .val (.int (1 : Int32)), .val (.ref b74), .val (.ref b76), .val (.int (1 : Int32)), .unset] [])
          refine Goes.step (fun _ k => XS.aload X80.here hx rfl (hb hby at_154) rfl rfl k) ?_
          show Goes p e below s _ _ _ T80 (mkF m 156 #[.val (.int p1), .val (.int p2), .val (.int p3), .val (.int p4), .val (.int p5), .val (.int (Int32.ofNat n)), .val (.int (1 : Int32)), .val (.int (0 : Int32)), .val (.int (1 : Int32)), .val (.ref b74), .val (.ref b76), .val (.int (1 : Int32)), .unset] [(.ref b76)])
          refine Goes.step (fun _ k => XS.iload X80.here hx rfl (hb hby at_156) rfl k) ?_
          show Goes p e below s _ _ _ T80 (mkF m 158 #[.val (.int p1), .val (.int p2), .val (.int p3), .val (.int p4), .val (.int p5), .val (.int (Int32.ofNat n)), .val (.int (1 : Int32)), .val (.int (0 : Int32)), .val (.int (1 : Int32)), .val (.ref b74), .val (.ref b76), .val (.int (1 : Int32)), .unset] [(.int (1 : Int32)), (.ref b76)])
          refine Goes.step (fun _ k => XS.iconst X80.here hx rfl (hb hby at_158) k) ?_
          show Goes p e below s _ _ _ T80 (mkF m 159 #[.val (.int p1), .val (.int p2), .val (.int p3), .val (.int p4), .val (.int p5), .val (.int (Int32.ofNat n)), .val (.int (1 : Int32)), .val (.int (0 : Int32)), .val (.int (1 : Int32)), .val (.ref b74), .val (.ref b76), .val (.int (1 : Int32)), .unset] [(.int (2 : Int32)), (.int (1 : Int32)), (.ref b76)])
          refine Goes.step (fun _ k => XS.iadd X80.here hx rfl (hb hby at_159) rfl k) ?_
          show Goes p e below s _ _ _ T80 (mkF m 160 #[.val (.int p1), .val (.int p2), .val (.int p3), .val (.int p4), .val (.int p5), .val (.int (Int32.ofNat n)), .val (.int (1 : Int32)), .val (.int (0 : Int32)), .val (.int (1 : Int32)), .val (.ref b74), .val (.ref b76), .val (.int (1 : Int32)), .unset] [(.int (3 : Int32)), (.ref b76)])
          refine Goes.step (fun _ k => XS.iload X80.here hx rfl (hb hby at_160) rfl k) ?_
          show Goes p e below s _ _ _ T80 (mkF m 162 #[.val (.int p1), .val (.int p2), .val (.int p3), .val (.int p4), .val (.int p5), .val (.int (Int32.ofNat n)), .val (.int (1 : Int32)), .val (.int (0 : Int32)), .val (.int (1 : Int32)), .val (.ref b74), .val (.ref b76), .val (.int (1 : Int32)), .unset] [(.int p5), (.int (3 : Int32)), (.ref b76)])
          refine Goes.step (fun _ k => XS.bipush X80.here hx rfl (hb hby at_162) k) ?_
          show Goes p e below s _ _ _ T80 (mkF m 164 #[.val (.int p1), .val (.int p2), .val (.int p3), .val (.int p4), .val (.int p5), .val (.int (Int32.ofNat n)), .val (.int (1 : Int32)), .val (.int (0 : Int32)), .val (.int (1 : Int32)), .val (.ref b74), .val (.ref b76), .val (.int (1 : Int32)), .unset] [(.int (8 : Int32)), (.int p5), (.int (3 : Int32)), (.ref b76)])
          refine Goes.step (fun _ k => XS.iushr X80.here hx rfl (hb hby at_164) rfl k) ?_
          show Goes p e below s _ _ _ T80 (mkF m 165 #[.val (.int p1), .val (.int p2), .val (.int p3), .val (.int p4), .val (.int p5), .val (.int (Int32.ofNat n)), .val (.int (1 : Int32)), .val (.int (0 : Int32)), .val (.int (1 : Int32)), .val (.ref b74), .val (.ref b76), .val (.int (1 : Int32)), .unset] [(.int ((p5.toUInt32 >>> ((8 : Int32) &&& 31).toUInt32).toInt32)), (.int (3 : Int32)), (.ref b76)])
          refine Goes.step (fun _ k => XS.i2b X80.here hx rfl (hb hby at_165) rfl k) ?_
          show Goes p e below s _ _ _ T80 (mkF m 166 #[.val (.int p1), .val (.int p2), .val (.int p3), .val (.int p4), .val (.int p5), .val (.int (Int32.ofNat n)), .val (.int (1 : Int32)), .val (.int (0 : Int32)), .val (.int (1 : Int32)), .val (.ref b74), .val (.ref b76), .val (.int (1 : Int32)), .unset] [(.int (((p5.toUInt32 >>> ((8 : Int32) &&& 31).toUInt32).toInt32).toInt8.toInt32)), (.int (3 : Int32)), (.ref b76)])
          obtain ⟨T81, h81, X81, e81, W81, A81, st81⟩ := stoB X80 hx hZ e80 A_b76_80 (3) rfl (by decide) (g := (mkF m 166 #[.val (.int p1), .val (.int p2), .val (.int p3), .val (.int p4), .val (.int p5), .val (.int (Int32.ofNat n)), .val (.int (1 : Int32)), .val (.int (0 : Int32)), .val (.int (1 : Int32)), .val (.ref b74), .val (.ref b76), .val (.int (1 : Int32)), .unset] [(.int (((p5.toUInt32 >>> ((8 : Int32) &&& 31).toUInt32).toInt32).toInt8.toInt32)), (.int (3 : Int32)), (.ref b76)])) rfl rfl (hb hby at_166)
          refine Goes.step st81 ?_
          have hE78_81 := hE78_80.wr W81
          have hFb78_81 := hFb78_80.other W81 (Or.inl ne_b74_b76)
          have hFs78_81 := hFs78_80.other W81 (Or.inl ne_b74_b76)
          have hA78_81 := hA78_80.other W81 (Ne.symm ne_b76_b78)
          have z_81 : n0 ≤ h81.size := by rw [W81.size]; exact z_80
          have K_81 : Keep h0 h81 [] := K_80.wr W81 (Or.inr sz_b76)
          have N_81 := Fr.snoc X81 N_80 ge_b76
          have A_b76_81 : Ari Z h81 b76 .byte (7) (updI (updI (updI (updI (fun _ => 0) (0) ((p3.toInt8.toInt32).toInt8.toInt32)) (1) ((((p5.toUInt32 >>> ((24 : Int32) &&& 31).toUInt32).toInt32).toInt8.toInt32).toInt8.toInt32)) (2) ((((p5.toUInt32 >>> ((16 : Int32) &&& 31).toUInt32).toInt32).toInt8.toInt32).toInt8.toInt32)) (3) ((((p5.toUInt32 >>> ((8 : Int32) &&& 31).toUInt32).toInt32).toInt8.toInt32).toInt8.toInt32)) := A81
          show Goes p e below s _ _ _ T81 (mkF m 167 #[.val (.int p1), .val (.int p2), .val (.int p3), .val (.int p4), .val (.int p5), .val (.int (Int32.ofNat n)), .val (.int (1 : Int32)), .val (.int (0 : Int32)), .val (.int (1 : Int32)), .val (.ref b74), .val (.ref b76), .val (.int (1 : Int32)), .unset] [])
          refine Goes.step (fun _ k => XS.aload X81.here hx rfl (hb hby at_167) rfl rfl k) ?_
          show Goes p e below s _ _ _ T81 (mkF m 169 #[.val (.int p1), .val (.int p2), .val (.int p3), .val (.int p4), .val (.int p5), .val (.int (Int32.ofNat n)), .val (.int (1 : Int32)), .val (.int (0 : Int32)), .val (.int (1 : Int32)), .val (.ref b74), .val (.ref b76), .val (.int (1 : Int32)), .unset] [(.ref b76)])
          refine Goes.step (fun _ k => XS.iload X81.here hx rfl (hb hby at_169) rfl k) ?_
          show Goes p e below s _ _ _ T81 (mkF m 171 #[.val (.int p1), .val (.int p2), .val (.int p3), .val (.int p4), .val (.int p5), .val (.int (Int32.ofNat n)), .val (.int (1 : Int32)), .val (.int (0 : Int32)), .val (.int (1 : Int32)), .val (.ref b74), .val (.ref b76), .val (.int (1 : Int32)), .unset] [(.int (1 : Int32)), (.ref b76)])
          refine Goes.step (fun _ k => XS.iconst X81.here hx rfl (hb hby at_171) k) ?_
          show Goes p e below s _ _ _ T81 (mkF m 172 #[.val (.int p1), .val (.int p2), .val (.int p3), .val (.int p4), .val (.int p5), .val (.int (Int32.ofNat n)), .val (.int (1 : Int32)), .val (.int (0 : Int32)), .val (.int (1 : Int32)), .val (.ref b74), .val (.ref b76), .val (.int (1 : Int32)), .unset] [(.int (3 : Int32)), (.int (1 : Int32)), (.ref b76)])
          refine Goes.step (fun _ k => XS.iadd X81.here hx rfl (hb hby at_172) rfl k) ?_
          show Goes p e below s _ _ _ T81 (mkF m 173 #[.val (.int p1), .val (.int p2), .val (.int p3), .val (.int p4), .val (.int p5), .val (.int (Int32.ofNat n)), .val (.int (1 : Int32)), .val (.int (0 : Int32)), .val (.int (1 : Int32)), .val (.ref b74), .val (.ref b76), .val (.int (1 : Int32)), .unset] [(.int (4 : Int32)), (.ref b76)])
          refine Goes.step (fun _ k => XS.iload X81.here hx rfl (hb hby at_173) rfl k) ?_
          show Goes p e below s _ _ _ T81 (mkF m 175 #[.val (.int p1), .val (.int p2), .val (.int p3), .val (.int p4), .val (.int p5), .val (.int (Int32.ofNat n)), .val (.int (1 : Int32)), .val (.int (0 : Int32)), .val (.int (1 : Int32)), .val (.ref b74), .val (.ref b76), .val (.int (1 : Int32)), .unset] [(.int p5), (.int (4 : Int32)), (.ref b76)])
          refine Goes.step (fun _ k => XS.i2b X81.here hx rfl (hb hby at_175) rfl k) ?_
          show Goes p e below s _ _ _ T81 (mkF m 176 #[.val (.int p1), .val (.int p2), .val (.int p3), .val (.int p4), .val (.int p5), .val (.int (Int32.ofNat n)), .val (.int (1 : Int32)), .val (.int (0 : Int32)), .val (.int (1 : Int32)), .val (.ref b74), .val (.ref b76), .val (.int (1 : Int32)), .unset] [(.int (p5.toInt8.toInt32)), (.int (4 : Int32)), (.ref b76)])
          obtain ⟨T82, h82, X82, e82, W82, A82, st82⟩ := stoB X81 hx hZ e81 A_b76_81 (4) rfl (by decide) (g := (mkF m 176 #[.val (.int p1), .val (.int p2), .val (.int p3), .val (.int p4), .val (.int p5), .val (.int (Int32.ofNat n)), .val (.int (1 : Int32)), .val (.int (0 : Int32)), .val (.int (1 : Int32)), .val (.ref b74), .val (.ref b76), .val (.int (1 : Int32)), .unset] [(.int (p5.toInt8.toInt32)), (.int (4 : Int32)), (.ref b76)])) rfl rfl (hb hby at_176)
          refine Goes.step st82 ?_
          have hE78_82 := hE78_81.wr W82
          have hFb78_82 := hFb78_81.other W82 (Or.inl ne_b74_b76)
          have hFs78_82 := hFs78_81.other W82 (Or.inl ne_b74_b76)
          have hA78_82 := hA78_81.other W82 (Ne.symm ne_b76_b78)
          have z_82 : n0 ≤ h82.size := by rw [W82.size]; exact z_81
          have K_82 : Keep h0 h82 [] := K_81.wr W82 (Or.inr sz_b76)
          have N_82 := Fr.snoc X82 N_81 ge_b76
          have A_b76_82 : Ari Z h82 b76 .byte (7) (updI (updI (updI (updI (updI (fun _ => 0) (0) ((p3.toInt8.toInt32).toInt8.toInt32)) (1) ((((p5.toUInt32 >>> ((24 : Int32) &&& 31).toUInt32).toInt32).toInt8.toInt32).toInt8.toInt32)) (2) ((((p5.toUInt32 >>> ((16 : Int32) &&& 31).toUInt32).toInt32).toInt8.toInt32).toInt8.toInt32)) (3) ((((p5.toUInt32 >>> ((8 : Int32) &&& 31).toUInt32).toInt32).toInt8.toInt32).toInt8.toInt32)) (4) ((p5.toInt8.toInt32).toInt8.toInt32)) := A82
          show Goes p e below s _ _ _ T82 (mkF m 177 #[.val (.int p1), .val (.int p2), .val (.int p3), .val (.int p4), .val (.int p5), .val (.int (Int32.ofNat n)), .val (.int (1 : Int32)), .val (.int (0 : Int32)), .val (.int (1 : Int32)), .val (.ref b74), .val (.ref b76), .val (.int (1 : Int32)), .unset] [])
          refine Goes.step (fun _ k => XS.iload X82.here hx rfl (hb hby at_177) rfl k) ?_
          show Goes p e below s _ _ _ T82 (mkF m 179 #[.val (.int p1), .val (.int p2), .val (.int p3), .val (.int p4), .val (.int p5), .val (.int (Int32.ofNat n)), .val (.int (1 : Int32)), .val (.int (0 : Int32)), .val (.int (1 : Int32)), .val (.ref b74), .val (.ref b76), .val (.int (1 : Int32)), .unset] [(.int (1 : Int32))])
          refine Goes.step (fun _ k => XS.iconst X82.here hx rfl (hb hby at_179) k) ?_
          show Goes p e below s _ _ _ T82 (mkF m 180 #[.val (.int p1), .val (.int p2), .val (.int p3), .val (.int p4), .val (.int p5), .val (.int (Int32.ofNat n)), .val (.int (1 : Int32)), .val (.int (0 : Int32)), .val (.int (1 : Int32)), .val (.ref b74), .val (.ref b76), .val (.int (1 : Int32)), .unset] [(.int (4 : Int32)), (.int (1 : Int32))])
          refine Goes.step (fun _ k => XS.iadd X82.here hx rfl (hb hby at_180) rfl k) ?_
          show Goes p e below s _ _ _ T82 (mkF m 181 #[.val (.int p1), .val (.int p2), .val (.int p3), .val (.int p4), .val (.int p5), .val (.int (Int32.ofNat n)), .val (.int (1 : Int32)), .val (.int (0 : Int32)), .val (.int (1 : Int32)), .val (.ref b74), .val (.ref b76), .val (.int (1 : Int32)), .unset] [(.int (5 : Int32))])
          refine Goes.step (fun _ k => XS.istore X82.here hx rfl (hb hby at_181) rfl (l' := #[.val (.int p1), .val (.int p2), .val (.int p3), .val (.int p4), .val (.int p5), .val (.int (Int32.ofNat n)), .val (.int (1 : Int32)), .val (.int (0 : Int32)), .val (.int (1 : Int32)), .val (.ref b74), .val (.ref b76), .val (.int (5 : Int32)), .unset]) rfl k) ?_
          show Goes p e below s _ _ _ T82 (mkF m 183 #[.val (.int p1), .val (.int p2), .val (.int p3), .val (.int p4), .val (.int p5), .val (.int (Int32.ofNat n)), .val (.int (1 : Int32)), .val (.int (0 : Int32)), .val (.int (1 : Int32)), .val (.ref b74), .val (.ref b76), .val (.int (5 : Int32)), .unset] [])
          refine Goes.step (fun _ k => XS.aload X82.here hx rfl (hb hby at_183) rfl rfl k) ?_
          show Goes p e below s _ _ _ T82 (mkF m 185 #[.val (.int p1), .val (.int p2), .val (.int p3), .val (.int p4), .val (.int p5), .val (.int (Int32.ofNat n)), .val (.int (1 : Int32)), .val (.int (0 : Int32)), .val (.int (1 : Int32)), .val (.ref b74), .val (.ref b76), .val (.int (5 : Int32)), .unset] [(.ref b74)])
          refine Goes.step (fun _ k => XS.iload X82.here hx rfl (hb hby at_185) rfl k) ?_
          show Goes p e below s _ _ _ T82 (mkF m 187 #[.val (.int p1), .val (.int p2), .val (.int p3), .val (.int p4), .val (.int p5), .val (.int (Int32.ofNat n)), .val (.int (1 : Int32)), .val (.int (0 : Int32)), .val (.int (1 : Int32)), .val (.ref b74), .val (.ref b76), .val (.int (5 : Int32)), .unset] [(.int p5), (.ref b74)])
          obtain ⟨v83, T83, h83, L83, X83, e83, Q83, st83⟩ := callXV X82 hx hZ (C := "com/example/proxysmith/proxysmith/ClassFileWriter$Bytes") (b := b74) (y := (⟨"com/example/proxysmith/proxysmith/ClassFileWriter$Bytes", "u4", "(I)V"⟩ : MethodName)) (z := (⟨"com/example/proxysmith/proxysmith/ClassFileWriter$Bytes", "u4", "(I)V"⟩ : MethodName)) hown (hw _ (List.mem_of_getElem? (i := 52) rfl)) (hw _ (List.mem_of_getElem? (i := 53) rfl)) (hw _ (List.mem_of_getElem? (i := 55) rfl)) (hw _ (List.mem_of_getElem? (i := 54) rfl)) (hw _ (List.mem_of_getElem? (i := 56) rfl)) (hw _ (List.mem_of_getElem? (i := 2) rfl)) (notFace_of_selects (args := #[]) (mvT hZ (hw _ (List.mem_of_getElem? (i := 55) rfl)))) (by decide) (W := 0) (argsL := [(.int p5)]) (rest := []) (rm11 l Z a0 hw [] b74 p5 b78 n78 (0 + 1) f78 h82 n0 z_82 hE78_82 hFb78_82 hFs78_82 hA78_82 hab78 ge_b74 hg78 hs78 hn78 (by omega)) (by decide) (by decide) (by decide) (by decide) e82 hE78_82 (g := (mkF m 187 #[.val (.int p1), .val (.int p2), .val (.int p3), .val (.int p4), .val (.int p5), .val (.int (Int32.ofNat n)), .val (.int (1 : Int32)), .val (.int (0 : Int32)), .val (.int (1 : Int32)), .val (.ref b74), .val (.ref b76), .val (.int (5 : Int32)), .unset] [(.int p5), (.ref b74)])) rfl (by rw [hml]; rfl) (lenOf pd_0_0 rfl) rfl (by show 2 * 0 + _ ≤ _; exact Nat.le_of_eq rfl) (hb hby at_187)
          obtain ⟨b83, n83, f83, rfl, NQ83, KQ83, hE83, hFb83, hFs83, hA83, hab83, hg83, ho83, hs83, hn83, hf83, hv83, hu83, hx83, hy83⟩ := Q83
          refine Goes.step st83 ?_
          have hE78_83 := hE78_82.keep KQ83
          have A_b76_83 := A_b76_82.keep KQ83 (ninS (Ne.symm ne_b74_b76) (ninS ne_b76_b78 nin0))
          have z_83 : n0 ≤ h83.size := Nat.le_trans z_82 KQ83.1
          have K_83 : Keep h0 h83 [] := Keep.trans K_82 KQ83 (allS (Or.inr sz_b74) (allS mem_b78 all0))
          have N_83 := Fr.app N_82 NQ83
          have ne_b76_b83 : b76 ≠ b83 := ho83.elim (fun q z => ne_b76_b78 (z.trans q)) (fun q => Nat.ne_of_lt (Nat.lt_of_lt_of_le A_b76_82.lt q))
          have mem_b83 : b83 ∈ [] ∨ h0.size ≤ b83 := ho83.elim (fun q => q ▸ mem_b78) (fun q => Or.inr (Nat.le_trans K_82.1 q))
          show Goes p e below s _ _ _ T83 (mkF m 190 #[.val (.int p1), .val (.int p2), .val (.int p3), .val (.int p4), .val (.int p5), .val (.int (Int32.ofNat n)), .val (.int (1 : Int32)), .val (.int (0 : Int32)), .val (.int (1 : Int32)), .val (.ref b74), .val (.ref b76), .val (.int (5 : Int32)), .unset] [])
          refine Goes.step (fun _ k => XS.aload X83.here hx rfl (hb hby at_190) rfl rfl k) ?_
          show Goes p e below s _ _ _ T83 (mkF m 192 #[.val (.int p1), .val (.int p2), .val (.int p3), .val (.int p4), .val (.int p5), .val (.int (Int32.ofNat n)), .val (.int (1 : Int32)), .val (.int (0 : Int32)), .val (.int (1 : Int32)), .val (.ref b74), .val (.ref b76), .val (.int (5 : Int32)), .unset] [(.ref b74)])
          obtain ⟨v84, T84, h84, L84, X84, e84, Q84, st84⟩ := callXV X83 hx hZ (C := "com/example/proxysmith/proxysmith/ClassFileWriter$Bytes") (b := b74) (y := (⟨"com/example/proxysmith/proxysmith/ClassFileWriter$Bytes", "toByteArray", "()[B"⟩ : MethodName)) (z := (⟨"com/example/proxysmith/proxysmith/ClassFileWriter$Bytes", "toByteArray", "()[B"⟩ : MethodName)) hown (hw _ (List.mem_of_getElem? (i := 43) rfl)) (hw _ (List.mem_of_getElem? (i := 44) rfl)) (hw _ (List.mem_of_getElem? (i := 46) rfl)) (hw _ (List.mem_of_getElem? (i := 45) rfl)) (hw _ (List.mem_of_getElem? (i := 47) rfl)) (hw _ (List.mem_of_getElem? (i := 2) rfl)) (notFace_of_selects (args := #[]) (mvT hZ (hw _ (List.mem_of_getElem? (i := 46) rfl)))) (by decide) (W := 0) (argsL := []) (rest := []) (rm9 l Z a0 hw [] b74 b83 n83 5 f83 h83 n0 z_83 hE83 hFb83 hFs83 hA83 hab83 ge_b74 hg83 hs83 hn83 (by omega)) (by decide) (by decide) (by decide) (by decide) e83 hE83 (g := (mkF m 192 #[.val (.int p1), .val (.int p2), .val (.int p3), .val (.int p4), .val (.int p5), .val (.int (Int32.ofNat n)), .val (.int (1 : Int32)), .val (.int (0 : Int32)), .val (.int (1 : Int32)), .val (.ref b74), .val (.ref b76), .val (.int (5 : Int32)), .unset] [(.ref b74)])) rfl (by rw [hml]; rfl) (lenOf pd_0_1 rfl) rfl (by show 2 * 0 + _ ≤ _; exact Nat.le_of_eq rfl) (hb hby at_192)
          obtain ⟨r84, rfl, NQ84, KQ84, g84, hA84, hg84⟩ := Q84
          refine Goes.step st84 ?_
          have hE83_84 := hE83.keep KQ84
          have A_b76_84 := A_b76_83.keep KQ84 nin0
          have hFb83_84 := hFb83.keep KQ84 nin0
          have hFs83_84 := hFs83.keep KQ84 nin0
          have hA83_84 := hA83.keep KQ84 nin0
          have z_84 : n0 ≤ h84.size := Nat.le_trans z_83 KQ84.1
          have K_84 : Keep h0 h84 [] := Keep.trans K_83 KQ84 all0
          have N_84 := Fr.app N_83 NQ84
          show Goes p e below s _ _ _ T84 (mkF m 195 #[.val (.int p1), .val (.int p2), .val (.int p3), .val (.int p4), .val (.int p5), .val (.int (Int32.ofNat n)), .val (.int (1 : Int32)), .val (.int (0 : Int32)), .val (.int (1 : Int32)), .val (.ref b74), .val (.ref b76), .val (.int (5 : Int32)), .unset] [(.ref r84)])
          refine Goes.step (fun _ k => XS.astore X84.here hx rfl (hb hby at_195) rfl rfl (l' := #[.val (.int p1), .val (.int p2), .val (.int p3), .val (.int p4), .val (.int p5), .val (.int (Int32.ofNat n)), .val (.int (1 : Int32)), .val (.int (0 : Int32)), .val (.int (1 : Int32)), .val (.ref b74), .val (.ref b76), .val (.int (5 : Int32)), .val (.ref r84)]) rfl k) ?_
          show Goes p e below s _ _ _ T84 (mkF m 197 #[.val (.int p1), .val (.int p2), .val (.int p3), .val (.int p4), .val (.int p5), .val (.int (Int32.ofNat n)), .val (.int (1 : Int32)), .val (.int (0 : Int32)), .val (.int (1 : Int32)), .val (.ref b74), .val (.ref b76), .val (.int (5 : Int32)), .val (.ref r84)] [])
          refine Goes.step (fun _ k => XS.aload X84.here hx rfl (hb hby at_197) rfl rfl k) ?_
          show Goes p e below s _ _ _ T84 (mkF m 199 #[.val (.int p1), .val (.int p2), .val (.int p3), .val (.int p4), .val (.int p5), .val (.int (Int32.ofNat n)), .val (.int (1 : Int32)), .val (.int (0 : Int32)), .val (.int (1 : Int32)), .val (.ref b74), .val (.ref b76), .val (.int (5 : Int32)), .val (.ref r84)] [(.ref r84)])
          refine Goes.step (fun _ k => XS.ifnullNo X84.here hx rfl (hb hby at_199) rfl k) ?_
          show Goes p e below s _ _ _ T84 (mkF m 202 #[.val (.int p1), .val (.int p2), .val (.int p3), .val (.int p4), .val (.int p5), .val (.int (Int32.ofNat n)), .val (.int (1 : Int32)), .val (.int (0 : Int32)), .val (.int (1 : Int32)), .val (.ref b74), .val (.ref b76), .val (.int (5 : Int32)), .val (.ref r84)] [])
          refine Goes.step (fun _ k => XS.aload X84.here hx rfl (hb hby at_202) rfl rfl k) ?_
          show Goes p e below s _ _ _ T84 (mkF m 204 #[.val (.int p1), .val (.int p2), .val (.int p3), .val (.int p4), .val (.int p5), .val (.int (Int32.ofNat n)), .val (.int (1 : Int32)), .val (.int (0 : Int32)), .val (.int (1 : Int32)), .val (.ref b74), .val (.ref b76), .val (.int (5 : Int32)), .val (.ref r84)] [(.ref r84)])
          refine Goes.step (fun _ k => rdL X84 hx hZ e84 hA84 (g := (mkF m 204 #[.val (.int p1), .val (.int p2), .val (.int p3), .val (.int p4), .val (.int p5), .val (.int (Int32.ofNat n)), .val (.int (1 : Int32)), .val (.int (0 : Int32)), .val (.int (1 : Int32)), .val (.ref b74), .val (.ref b76), .val (.int (5 : Int32)), .val (.ref r84)] [(.ref r84)])) rfl rfl (hb hby at_204) _ k) ?_
          show Goes p e below s _ _ _ T84 (mkF m 205 #[.val (.int p1), .val (.int p2), .val (.int p3), .val (.int p4), .val (.int p5), .val (.int (Int32.ofNat n)), .val (.int (1 : Int32)), .val (.int (0 : Int32)), .val (.int (1 : Int32)), .val (.ref b74), .val (.ref b76), .val (.int (5 : Int32)), .val (.ref r84)] [(.int (Int32.ofNat 5))])
          refine Goes.step (fun _ k => XS.iload X84.here hx rfl (hb hby at_205) rfl k) ?_
          show Goes p e below s _ _ _ T84 (mkF m 207 #[.val (.int p1), .val (.int p2), .val (.int p3), .val (.int p4), .val (.int p5), .val (.int (Int32.ofNat n)), .val (.int (1 : Int32)), .val (.int (0 : Int32)), .val (.int (1 : Int32)), .val (.ref b74), .val (.ref b76), .val (.int (5 : Int32)), .val (.ref r84)] [(.int (5 : Int32)), (.int (Int32.ofNat 5))])
          refine Goes.step (fun _ k => XS.icmpYes X84.here hx rfl (pc0 := 207) (pc' := 212) rfl (hb hby at_207) rfl (teq (by decide : (Int32.ofNat 5) = (5 : Int32))).1 (by decide) (by decide) k) ?_
          show Goes p e below s _ _ _ T84 (mkF m 212 #[.val (.int p1), .val (.int p2), .val (.int p3), .val (.int p4), .val (.int p5), .val (.int (Int32.ofNat n)), .val (.int (1 : Int32)), .val (.int (0 : Int32)), .val (.int (1 : Int32)), .val (.ref b74), .val (.ref b76), .val (.int (5 : Int32)), .val (.ref r84)] [])
          refine Goes.step (fun _ k => XS.aload X84.here hx rfl (hb hby at_212) rfl rfl k) ?_
          show Goes p e below s _ _ _ T84 (mkF m 214 #[.val (.int p1), .val (.int p2), .val (.int p3), .val (.int p4), .val (.int p5), .val (.int (Int32.ofNat n)), .val (.int (1 : Int32)), .val (.int (0 : Int32)), .val (.int (1 : Int32)), .val (.ref b74), .val (.ref b76), .val (.int (5 : Int32)), .val (.ref r84)] [(.ref r84)])
          refine Goes.step (fun _ k => XS.aload X84.here hx rfl (hb hby at_214) rfl rfl k) ?_
          show Goes p e below s _ _ _ T84 (mkF m 216 #[.val (.int p1), .val (.int p2), .val (.int p3), .val (.int p4), .val (.int p5), .val (.int (Int32.ofNat n)), .val (.int (1 : Int32)), .val (.int (0 : Int32)), .val (.int (1 : Int32)), .val (.ref b74), .val (.ref b76), .val (.int (5 : Int32)), .val (.ref r84)] [(.ref b76), (.ref r84)])
          refine Goes.step (fun _ k => XS.iload X84.here hx rfl (hb hby at_216) rfl k) ?_
          show Goes p e below s _ _ _ T84 (mkF m 218 #[.val (.int p1), .val (.int p2), .val (.int p3), .val (.int p4), .val (.int p5), .val (.int (Int32.ofNat n)), .val (.int (1 : Int32)), .val (.int (0 : Int32)), .val (.int (1 : Int32)), .val (.ref b74), .val (.ref b76), .val (.int (5 : Int32)), .val (.ref r84)] [(.int (5 : Int32)), (.ref b76), (.ref r84)])
          refine Goes.step (fun _ k => XS.iconst X84.here hx rfl (hb hby at_218) k) ?_
          show Goes p e below s _ _ _ T84 (mkF m 219 #[.val (.int p1), .val (.int p2), .val (.int p3), .val (.int p4), .val (.int p5), .val (.int (Int32.ofNat n)), .val (.int (1 : Int32)), .val (.int (0 : Int32)), .val (.int (1 : Int32)), .val (.ref b74), .val (.ref b76), .val (.int (5 : Int32)), .val (.ref r84)] [(.int (0 : Int32)), (.int (5 : Int32)), (.ref b76), (.ref r84)])
          obtain ⟨T85, X85, e85, st85⟩ := callPure X84 hx hZ (y := (⟨"com/example/proxysmith/proxysmith/BytesToByteArrayPinLaw", "same", "([B[BII)Z"⟩ : MethodName)) hown (hw _ (List.mem_of_getElem? (i := 48) rfl)) (hw _ (List.mem_of_getElem? (i := 49) rfl)) (hw _ (List.mem_of_getElem? (i := 50) rfl)) (hw _ (List.mem_of_getElem? (i := 51) rfl)) (by decide) (W := 0) (argsL := [(.ref r84), (.ref b76), (.int (5 : Int32)), (.int (0 : Int32))]) (rest := []) (r := (.int (1 : Int32))) (fun _ _ _ q => q) (rm10b l Z a0 hw [] r84 b76 (5 : Int32) (0 : Int32) 0 5 7 g84 (updI (updI (updI (updI (updI (fun _ => 0) (0) ((p3.toInt8.toInt32).toInt8.toInt32)) (1) ((((p5.toUInt32 >>> ((24 : Int32) &&& 31).toUInt32).toInt32).toInt8.toInt32).toInt8.toInt32)) (2) ((((p5.toUInt32 >>> ((16 : Int32) &&& 31).toUInt32).toInt32).toInt8.toInt32).toInt8.toInt32)) (3) ((((p5.toUInt32 >>> ((8 : Int32) &&& 31).toUInt32).toInt32).toInt8.toInt32).toInt8.toInt32)) (4) ((p5.toInt8.toInt32).toInt8.toInt32)) h84 n0 z_84 (by decide) rfl hA84 A_b76_84 (by decide) (by decide) ((hg84 0 (by omega)).trans (((hf83 0 (by omega)).trans hv78).trans (own_BB _).symm))) (by decide) (by decide) (by decide) (by decide) e84 (g := (mkF m 219 #[.val (.int p1), .val (.int p2), .val (.int p3), .val (.int p4), .val (.int p5), .val (.int (Int32.ofNat n)), .val (.int (1 : Int32)), .val (.int (0 : Int32)), .val (.int (1 : Int32)), .val (.ref b74), .val (.ref b76), .val (.int (5 : Int32)), .val (.ref r84)] [(.int (0 : Int32)), (.int (5 : Int32)), (.ref b76), (.ref r84)])) rfl (by rw [hml]; rfl) (lenOf pd_0_2 rfl) rfl (by show 2 * 0 + _ ≤ _; exact Nat.le_of_eq rfl) (hb hby at_219)
          refine Goes.step st85 ?_
          show Goes p e below s _ _ _ T85 (mkF m 222 #[.val (.int p1), .val (.int p2), .val (.int p3), .val (.int p4), .val (.int p5), .val (.int (Int32.ofNat n)), .val (.int (1 : Int32)), .val (.int (0 : Int32)), .val (.int (1 : Int32)), .val (.ref b74), .val (.ref b76), .val (.int (5 : Int32)), .val (.ref r84)] [(.int (1 : Int32))])
          refine Goes.step (fun _ k => XS.ifNo X85.here hx rfl (hb hby at_222) rfl ((if0 _ _).trans (feq (by decide : ¬ ((1 : Int32) = (0 : Int32)))).1) k) ?_
          show Goes p e below s _ _ _ T85 (mkF m 225 #[.val (.int p1), .val (.int p2), .val (.int p3), .val (.int p4), .val (.int p5), .val (.int (Int32.ofNat n)), .val (.int (1 : Int32)), .val (.int (0 : Int32)), .val (.int (1 : Int32)), .val (.ref b74), .val (.ref b76), .val (.int (5 : Int32)), .val (.ref r84)] [])
          refine Goes.step (fun _ k => XS.aload X85.here hx rfl (hb hby at_225) rfl rfl k) ?_
          show Goes p e below s _ _ _ T85 (mkF m 227 #[.val (.int p1), .val (.int p2), .val (.int p3), .val (.int p4), .val (.int p5), .val (.int (Int32.ofNat n)), .val (.int (1 : Int32)), .val (.int (0 : Int32)), .val (.int (1 : Int32)), .val (.ref b74), .val (.ref b76), .val (.int (5 : Int32)), .val (.ref r84)] [(.ref r84)])
          refine Goes.step (fun _ k => XS.aload X85.here hx rfl (hb hby at_227) rfl rfl k) ?_
          show Goes p e below s _ _ _ T85 (mkF m 229 #[.val (.int p1), .val (.int p2), .val (.int p3), .val (.int p4), .val (.int p5), .val (.int (Int32.ofNat n)), .val (.int (1 : Int32)), .val (.int (0 : Int32)), .val (.int (1 : Int32)), .val (.ref b74), .val (.ref b76), .val (.int (5 : Int32)), .val (.ref r84)] [(.ref b76), (.ref r84)])
          refine Goes.step (fun _ k => XS.iload X85.here hx rfl (hb hby at_229) rfl k) ?_
          show Goes p e below s _ _ _ T85 (mkF m 231 #[.val (.int p1), .val (.int p2), .val (.int p3), .val (.int p4), .val (.int p5), .val (.int (Int32.ofNat n)), .val (.int (1 : Int32)), .val (.int (0 : Int32)), .val (.int (1 : Int32)), .val (.ref b74), .val (.ref b76), .val (.int (5 : Int32)), .val (.ref r84)] [(.int (5 : Int32)), (.ref b76), (.ref r84)])
          refine Goes.step (fun _ k => XS.iconst X85.here hx rfl (hb hby at_231) k) ?_
          show Goes p e below s _ _ _ T85 (mkF m 232 #[.val (.int p1), .val (.int p2), .val (.int p3), .val (.int p4), .val (.int p5), .val (.int (Int32.ofNat n)), .val (.int (1 : Int32)), .val (.int (0 : Int32)), .val (.int (1 : Int32)), .val (.ref b74), .val (.ref b76), .val (.int (5 : Int32)), .val (.ref r84)] [(.int (1 : Int32)), (.int (5 : Int32)), (.ref b76), (.ref r84)])
          as_aux_lemma =>
            obtain ⟨T86, X86, e86, st86⟩ := callPure X85 hx hZ (y := (⟨"com/example/proxysmith/proxysmith/BytesToByteArrayPinLaw", "same", "([B[BII)Z"⟩ : MethodName)) hown (hw _ (List.mem_of_getElem? (i := 48) rfl)) (hw _ (List.mem_of_getElem? (i := 49) rfl)) (hw _ (List.mem_of_getElem? (i := 50) rfl)) (hw _ (List.mem_of_getElem? (i := 51) rfl)) (by decide) (W := 0) (argsL := [(.ref r84), (.ref b76), (.int (5 : Int32)), (.int (1 : Int32))]) (rest := []) (r := (.int (1 : Int32))) (fun _ _ _ q => q) (rm10b l Z a0 hw [] r84 b76 (5 : Int32) (1 : Int32) 1 5 7 g84 (updI (updI (updI (updI (updI (fun _ => 0) (0) ((p3.toInt8.toInt32).toInt8.toInt32)) (1) ((((p5.toUInt32 >>> ((24 : Int32) &&& 31).toUInt32).toInt32).toInt8.toInt32).toInt8.toInt32)) (2) ((((p5.toUInt32 >>> ((16 : Int32) &&& 31).toUInt32).toInt32).toInt8.toInt32).toInt8.toInt32)) (3) ((((p5.toUInt32 >>> ((8 : Int32) &&& 31).toUInt32).toInt32).toInt8.toInt32).toInt8.toInt32)) (4) ((p5.toInt8.toInt32).toInt8.toInt32)) h84 n0 z_84 (by decide) rfl hA84 A_b76_84 (by decide) (by decide) ((hg84 1 (by omega)).trans (hv83.trans (own_24 _)))) (by decide) (by decide) (by decide) (by decide) e85 (g := (mkF m 232 #[.val (.int p1), .val (.int p2), .val (.int p3), .val (.int p4), .val (.int p5), .val (.int (Int32.ofNat n)), .val (.int (1 : Int32)), .val (.int (0 : Int32)), .val (.int (1 : Int32)), .val (.ref b74), .val (.ref b76), .val (.int (5 : Int32)), .val (.ref r84)] [(.int (1 : Int32)), (.int (5 : Int32)), (.ref b76), (.ref r84)])) rfl (by rw [hml]; rfl) (lenOf pd_0_2 rfl) rfl (by show 2 * 0 + _ ≤ _; exact Nat.le_of_eq rfl) (hb hby at_232)
            refine Goes.step st86 ?_
            show Goes p e below s _ _ _ T86 (mkF m 235 #[.val (.int p1), .val (.int p2), .val (.int p3), .val (.int p4), .val (.int p5), .val (.int (Int32.ofNat n)), .val (.int (1 : Int32)), .val (.int (0 : Int32)), .val (.int (1 : Int32)), .val (.ref b74), .val (.ref b76), .val (.int (5 : Int32)), .val (.ref r84)] [(.int (1 : Int32))])
            refine Goes.step (fun _ k => XS.ifNo X86.here hx rfl (hb hby at_235) rfl ((if0 _ _).trans (feq (by decide : ¬ ((1 : Int32) = (0 : Int32)))).1) k) ?_
            show Goes p e below s _ _ _ T86 (mkF m 238 #[.val (.int p1), .val (.int p2), .val (.int p3), .val (.int p4), .val (.int p5), .val (.int (Int32.ofNat n)), .val (.int (1 : Int32)), .val (.int (0 : Int32)), .val (.int (1 : Int32)), .val (.ref b74), .val (.ref b76), .val (.int (5 : Int32)), .val (.ref r84)] [])
            refine Goes.step (fun _ k => XS.aload X86.here hx rfl (hb hby at_238) rfl rfl k) ?_
            show Goes p e below s _ _ _ T86 (mkF m 240 #[.val (.int p1), .val (.int p2), .val (.int p3), .val (.int p4), .val (.int p5), .val (.int (Int32.ofNat n)), .val (.int (1 : Int32)), .val (.int (0 : Int32)), .val (.int (1 : Int32)), .val (.ref b74), .val (.ref b76), .val (.int (5 : Int32)), .val (.ref r84)] [(.ref r84)])
            refine Goes.step (fun _ k => XS.aload X86.here hx rfl (hb hby at_240) rfl rfl k) ?_
            show Goes p e below s _ _ _ T86 (mkF m 242 #[.val (.int p1), .val (.int p2), .val (.int p3), .val (.int p4), .val (.int p5), .val (.int (Int32.ofNat n)), .val (.int (1 : Int32)), .val (.int (0 : Int32)), .val (.int (1 : Int32)), .val (.ref b74), .val (.ref b76), .val (.int (5 : Int32)), .val (.ref r84)] [(.ref b76), (.ref r84)])
            refine Goes.step (fun _ k => XS.iload X86.here hx rfl (hb hby at_242) rfl k) ?_
            show Goes p e below s _ _ _ T86 (mkF m 244 #[.val (.int p1), .val (.int p2), .val (.int p3), .val (.int p4), .val (.int p5), .val (.int (Int32.ofNat n)), .val (.int (1 : Int32)), .val (.int (0 : Int32)), .val (.int (1 : Int32)), .val (.ref b74), .val (.ref b76), .val (.int (5 : Int32)), .val (.ref r84)] [(.int (5 : Int32)), (.ref b76), (.ref r84)])
            refine Goes.step (fun _ k => XS.iconst X86.here hx rfl (hb hby at_244) k) ?_
            show Goes p e below s _ _ _ T86 (mkF m 245 #[.val (.int p1), .val (.int p2), .val (.int p3), .val (.int p4), .val (.int p5), .val (.int (Int32.ofNat n)), .val (.int (1 : Int32)), .val (.int (0 : Int32)), .val (.int (1 : Int32)), .val (.ref b74), .val (.ref b76), .val (.int (5 : Int32)), .val (.ref r84)] [(.int (2 : Int32)), (.int (5 : Int32)), (.ref b76), (.ref r84)])
            obtain ⟨T87, X87, e87, st87⟩ := callPure X86 hx hZ (y := (⟨"com/example/proxysmith/proxysmith/BytesToByteArrayPinLaw", "same", "([B[BII)Z"⟩ : MethodName)) hown (hw _ (List.mem_of_getElem? (i := 48) rfl)) (hw _ (List.mem_of_getElem? (i := 49) rfl)) (hw _ (List.mem_of_getElem? (i := 50) rfl)) (hw _ (List.mem_of_getElem? (i := 51) rfl)) (by decide) (W := 0) (argsL := [(.ref r84), (.ref b76), (.int (5 : Int32)), (.int (2 : Int32))]) (rest := []) (r := (.int (1 : Int32))) (fun _ _ _ q => q) (rm10b l Z a0 hw [] r84 b76 (5 : Int32) (2 : Int32) 2 5 7 g84 (updI (updI (updI (updI (updI (fun _ => 0) (0) ((p3.toInt8.toInt32).toInt8.toInt32)) (1) ((((p5.toUInt32 >>> ((24 : Int32) &&& 31).toUInt32).toInt32).toInt8.toInt32).toInt8.toInt32)) (2) ((((p5.toUInt32 >>> ((16 : Int32) &&& 31).toUInt32).toInt32).toInt8.toInt32).toInt8.toInt32)) (3) ((((p5.toUInt32 >>> ((8 : Int32) &&& 31).toUInt32).toInt32).toInt8.toInt32).toInt8.toInt32)) (4) ((p5.toInt8.toInt32).toInt8.toInt32)) h84 n0 z_84 (by decide) rfl hA84 A_b76_84 (by decide) (by decide) ((hg84 2 (by omega)).trans (hu83.trans (own_BB _).symm))) (by decide) (by decide) (by decide) (by decide) e86 (g := (mkF m 245 #[.val (.int p1), .val (.int p2), .val (.int p3), .val (.int p4), .val (.int p5), .val (.int (Int32.ofNat n)), .val (.int (1 : Int32)), .val (.int (0 : Int32)), .val (.int (1 : Int32)), .val (.ref b74), .val (.ref b76), .val (.int (5 : Int32)), .val (.ref r84)] [(.int (2 : Int32)), (.int (5 : Int32)), (.ref b76), (.ref r84)])) rfl (by rw [hml]; rfl) (lenOf pd_0_2 rfl) rfl (by show 2 * 0 + _ ≤ _; exact Nat.le_of_eq rfl) (hb hby at_245)
            refine Goes.step st87 ?_
            show Goes p e below s _ _ _ T87 (mkF m 248 #[.val (.int p1), .val (.int p2), .val (.int p3), .val (.int p4), .val (.int p5), .val (.int (Int32.ofNat n)), .val (.int (1 : Int32)), .val (.int (0 : Int32)), .val (.int (1 : Int32)), .val (.ref b74), .val (.ref b76), .val (.int (5 : Int32)), .val (.ref r84)] [(.int (1 : Int32))])
            refine Goes.step (fun _ k => XS.ifNo X87.here hx rfl (hb hby at_248) rfl ((if0 _ _).trans (feq (by decide : ¬ ((1 : Int32) = (0 : Int32)))).1) k) ?_
            show Goes p e below s _ _ _ T87 (mkF m 251 #[.val (.int p1), .val (.int p2), .val (.int p3), .val (.int p4), .val (.int p5), .val (.int (Int32.ofNat n)), .val (.int (1 : Int32)), .val (.int (0 : Int32)), .val (.int (1 : Int32)), .val (.ref b74), .val (.ref b76), .val (.int (5 : Int32)), .val (.ref r84)] [])
            refine Goes.step (fun _ k => XS.aload X87.here hx rfl (hb hby at_251) rfl rfl k) ?_
            show Goes p e below s _ _ _ T87 (mkF m 253 #[.val (.int p1), .val (.int p2), .val (.int p3), .val (.int p4), .val (.int p5), .val (.int (Int32.ofNat n)), .val (.int (1 : Int32)), .val (.int (0 : Int32)), .val (.int (1 : Int32)), .val (.ref b74), .val (.ref b76), .val (.int (5 : Int32)), .val (.ref r84)] [(.ref r84)])
            refine Goes.step (fun _ k => XS.aload X87.here hx rfl (hb hby at_253) rfl rfl k) ?_
            show Goes p e below s _ _ _ T87 (mkF m 255 #[.val (.int p1), .val (.int p2), .val (.int p3), .val (.int p4), .val (.int p5), .val (.int (Int32.ofNat n)), .val (.int (1 : Int32)), .val (.int (0 : Int32)), .val (.int (1 : Int32)), .val (.ref b74), .val (.ref b76), .val (.int (5 : Int32)), .val (.ref r84)] [(.ref b76), (.ref r84)])
            refine Goes.step (fun _ k => XS.iload X87.here hx rfl (hb hby at_255) rfl k) ?_
            show Goes p e below s _ _ _ T87 (mkF m 257 #[.val (.int p1), .val (.int p2), .val (.int p3), .val (.int p4), .val (.int p5), .val (.int (Int32.ofNat n)), .val (.int (1 : Int32)), .val (.int (0 : Int32)), .val (.int (1 : Int32)), .val (.ref b74), .val (.ref b76), .val (.int (5 : Int32)), .val (.ref r84)] [(.int (5 : Int32)), (.ref b76), (.ref r84)])
            refine Goes.step (fun _ k => XS.iconst X87.here hx rfl (hb hby at_257) k) ?_
            show Goes p e below s _ _ _ T87 (mkF m 258 #[.val (.int p1), .val (.int p2), .val (.int p3), .val (.int p4), .val (.int p5), .val (.int (Int32.ofNat n)), .val (.int (1 : Int32)), .val (.int (0 : Int32)), .val (.int (1 : Int32)), .val (.ref b74), .val (.ref b76), .val (.int (5 : Int32)), .val (.ref r84)] [(.int (3 : Int32)), (.int (5 : Int32)), (.ref b76), (.ref r84)])
            obtain ⟨T88, X88, e88, st88⟩ := callPure X87 hx hZ (y := (⟨"com/example/proxysmith/proxysmith/BytesToByteArrayPinLaw", "same", "([B[BII)Z"⟩ : MethodName)) hown (hw _ (List.mem_of_getElem? (i := 48) rfl)) (hw _ (List.mem_of_getElem? (i := 49) rfl)) (hw _ (List.mem_of_getElem? (i := 50) rfl)) (hw _ (List.mem_of_getElem? (i := 51) rfl)) (by decide) (W := 0) (argsL := [(.ref r84), (.ref b76), (.int (5 : Int32)), (.int (3 : Int32))]) (rest := []) (r := (.int (1 : Int32))) (fun _ _ _ q => q) (rm10b l Z a0 hw [] r84 b76 (5 : Int32) (3 : Int32) 3 5 7 g84 (updI (updI (updI (updI (updI (fun _ => 0) (0) ((p3.toInt8.toInt32).toInt8.toInt32)) (1) ((((p5.toUInt32 >>> ((24 : Int32) &&& 31).toUInt32).toInt32).toInt8.toInt32).toInt8.toInt32)) (2) ((((p5.toUInt32 >>> ((16 : Int32) &&& 31).toUInt32).toInt32).toInt8.toInt32).toInt8.toInt32)) (3) ((((p5.toUInt32 >>> ((8 : Int32) &&& 31).toUInt32).toInt32).toInt8.toInt32).toInt8.toInt32)) (4) ((p5.toInt8.toInt32).toInt8.toInt32)) h84 n0 z_84 (by decide) rfl hA84 A_b76_84 (by decide) (by decide) ((hg84 3 (by omega)).trans (hx83.trans (own_BB _).symm))) (by decide) (by decide) (by decide) (by decide) e87 (g := (mkF m 258 #[.val (.int p1), .val (.int p2), .val (.int p3), .val (.int p4), .val (.int p5), .val (.int (Int32.ofNat n)), .val (.int (1 : Int32)), .val (.int (0 : Int32)), .val (.int (1 : Int32)), .val (.ref b74), .val (.ref b76), .val (.int (5 : Int32)), .val (.ref r84)] [(.int (3 : Int32)), (.int (5 : Int32)), (.ref b76), (.ref r84)])) rfl (by rw [hml]; rfl) (lenOf pd_0_2 rfl) rfl (by show 2 * 0 + _ ≤ _; exact Nat.le_of_eq rfl) (hb hby at_258)
            refine Goes.step st88 ?_
            show Goes p e below s _ _ _ T88 (mkF m 261 #[.val (.int p1), .val (.int p2), .val (.int p3), .val (.int p4), .val (.int p5), .val (.int (Int32.ofNat n)), .val (.int (1 : Int32)), .val (.int (0 : Int32)), .val (.int (1 : Int32)), .val (.ref b74), .val (.ref b76), .val (.int (5 : Int32)), .val (.ref r84)] [(.int (1 : Int32))])
            refine Goes.step (fun _ k => XS.ifNo X88.here hx rfl (hb hby at_261) rfl ((if0 _ _).trans (feq (by decide : ¬ ((1 : Int32) = (0 : Int32)))).1) k) ?_
            show Goes p e below s _ _ _ T88 (mkF m 264 #[.val (.int p1), .val (.int p2), .val (.int p3), .val (.int p4), .val (.int p5), .val (.int (Int32.ofNat n)), .val (.int (1 : Int32)), .val (.int (0 : Int32)), .val (.int (1 : Int32)), .val (.ref b74), .val (.ref b76), .val (.int (5 : Int32)), .val (.ref r84)] [])
            refine Goes.step (fun _ k => XS.aload X88.here hx rfl (hb hby at_264) rfl rfl k) ?_
            show Goes p e below s _ _ _ T88 (mkF m 266 #[.val (.int p1), .val (.int p2), .val (.int p3), .val (.int p4), .val (.int p5), .val (.int (Int32.ofNat n)), .val (.int (1 : Int32)), .val (.int (0 : Int32)), .val (.int (1 : Int32)), .val (.ref b74), .val (.ref b76), .val (.int (5 : Int32)), .val (.ref r84)] [(.ref r84)])
            refine Goes.step (fun _ k => XS.aload X88.here hx rfl (hb hby at_266) rfl rfl k) ?_
            show Goes p e below s _ _ _ T88 (mkF m 268 #[.val (.int p1), .val (.int p2), .val (.int p3), .val (.int p4), .val (.int p5), .val (.int (Int32.ofNat n)), .val (.int (1 : Int32)), .val (.int (0 : Int32)), .val (.int (1 : Int32)), .val (.ref b74), .val (.ref b76), .val (.int (5 : Int32)), .val (.ref r84)] [(.ref b76), (.ref r84)])
            refine Goes.step (fun _ k => XS.iload X88.here hx rfl (hb hby at_268) rfl k) ?_
            show Goes p e below s _ _ _ T88 (mkF m 270 #[.val (.int p1), .val (.int p2), .val (.int p3), .val (.int p4), .val (.int p5), .val (.int (Int32.ofNat n)), .val (.int (1 : Int32)), .val (.int (0 : Int32)), .val (.int (1 : Int32)), .val (.ref b74), .val (.ref b76), .val (.int (5 : Int32)), .val (.ref r84)] [(.int (5 : Int32)), (.ref b76), (.ref r84)])
            refine Goes.step (fun _ k => XS.iconst X88.here hx rfl (hb hby at_270) k) ?_
            show Goes p e below s _ _ _ T88 (mkF m 271 #[.val (.int p1), .val (.int p2), .val (.int p3), .val (.int p4), .val (.int p5), .val (.int (Int32.ofNat n)), .val (.int (1 : Int32)), .val (.int (0 : Int32)), .val (.int (1 : Int32)), .val (.ref b74), .val (.ref b76), .val (.int (5 : Int32)), .val (.ref r84)] [(.int (4 : Int32)), (.int (5 : Int32)), (.ref b76), (.ref r84)])
            obtain ⟨T89, X89, e89, st89⟩ := callPure X88 hx hZ (y := (⟨"com/example/proxysmith/proxysmith/BytesToByteArrayPinLaw", "same", "([B[BII)Z"⟩ : MethodName)) hown (hw _ (List.mem_of_getElem? (i := 48) rfl)) (hw _ (List.mem_of_getElem? (i := 49) rfl)) (hw _ (List.mem_of_getElem? (i := 50) rfl)) (hw _ (List.mem_of_getElem? (i := 51) rfl)) (by decide) (W := 0) (argsL := [(.ref r84), (.ref b76), (.int (5 : Int32)), (.int (4 : Int32))]) (rest := []) (r := (.int (1 : Int32))) (fun _ _ _ q => q) (rm10b l Z a0 hw [] r84 b76 (5 : Int32) (4 : Int32) 4 5 7 g84 (updI (updI (updI (updI (updI (fun _ => 0) (0) ((p3.toInt8.toInt32).toInt8.toInt32)) (1) ((((p5.toUInt32 >>> ((24 : Int32) &&& 31).toUInt32).toInt32).toInt8.toInt32).toInt8.toInt32)) (2) ((((p5.toUInt32 >>> ((16 : Int32) &&& 31).toUInt32).toInt32).toInt8.toInt32).toInt8.toInt32)) (3) ((((p5.toUInt32 >>> ((8 : Int32) &&& 31).toUInt32).toInt32).toInt8.toInt32).toInt8.toInt32)) (4) ((p5.toInt8.toInt32).toInt8.toInt32)) h84 n0 z_84 (by decide) rfl hA84 A_b76_84 (by decide) (by decide) ((hg84 4 (by omega)).trans (hy83.trans (own_BB _).symm))) (by decide) (by decide) (by decide) (by decide) e88 (g := (mkF m 271 #[.val (.int p1), .val (.int p2), .val (.int p3), .val (.int p4), .val (.int p5), .val (.int (Int32.ofNat n)), .val (.int (1 : Int32)), .val (.int (0 : Int32)), .val (.int (1 : Int32)), .val (.ref b74), .val (.ref b76), .val (.int (5 : Int32)), .val (.ref r84)] [(.int (4 : Int32)), (.int (5 : Int32)), (.ref b76), (.ref r84)])) rfl (by rw [hml]; rfl) (lenOf pd_0_2 rfl) rfl (by show 2 * 0 + _ ≤ _; exact Nat.le_of_eq rfl) (hb hby at_271)
            refine Goes.step st89 ?_
            show Goes p e below s _ _ _ T89 (mkF m 274 #[.val (.int p1), .val (.int p2), .val (.int p3), .val (.int p4), .val (.int p5), .val (.int (Int32.ofNat n)), .val (.int (1 : Int32)), .val (.int (0 : Int32)), .val (.int (1 : Int32)), .val (.ref b74), .val (.ref b76), .val (.int (5 : Int32)), .val (.ref r84)] [(.int (1 : Int32))])
            refine Goes.step (fun _ k => XS.ifNo X89.here hx rfl (hb hby at_274) rfl ((if0 _ _).trans (feq (by decide : ¬ ((1 : Int32) = (0 : Int32)))).1) k) ?_
            show Goes p e below s _ _ _ T89 (mkF m 277 #[.val (.int p1), .val (.int p2), .val (.int p3), .val (.int p4), .val (.int p5), .val (.int (Int32.ofNat n)), .val (.int (1 : Int32)), .val (.int (0 : Int32)), .val (.int (1 : Int32)), .val (.ref b74), .val (.ref b76), .val (.int (5 : Int32)), .val (.ref r84)] [])
            refine Goes.step (fun _ k => XS.aload X89.here hx rfl (hb hby at_277) rfl rfl k) ?_
            show Goes p e below s _ _ _ T89 (mkF m 279 #[.val (.int p1), .val (.int p2), .val (.int p3), .val (.int p4), .val (.int p5), .val (.int (Int32.ofNat n)), .val (.int (1 : Int32)), .val (.int (0 : Int32)), .val (.int (1 : Int32)), .val (.ref b74), .val (.ref b76), .val (.int (5 : Int32)), .val (.ref r84)] [(.ref r84)])
            refine Goes.step (fun _ k => XS.aload X89.here hx rfl (hb hby at_279) rfl rfl k) ?_
            show Goes p e below s _ _ _ T89 (mkF m 281 #[.val (.int p1), .val (.int p2), .val (.int p3), .val (.int p4), .val (.int p5), .val (.int (Int32.ofNat n)), .val (.int (1 : Int32)), .val (.int (0 : Int32)), .val (.int (1 : Int32)), .val (.ref b74), .val (.ref b76), .val (.int (5 : Int32)), .val (.ref r84)] [(.ref b76), (.ref r84)])
            refine Goes.step (fun _ k => XS.iload X89.here hx rfl (hb hby at_281) rfl k) ?_
            show Goes p e below s _ _ _ T89 (mkF m 283 #[.val (.int p1), .val (.int p2), .val (.int p3), .val (.int p4), .val (.int p5), .val (.int (Int32.ofNat n)), .val (.int (1 : Int32)), .val (.int (0 : Int32)), .val (.int (1 : Int32)), .val (.ref b74), .val (.ref b76), .val (.int (5 : Int32)), .val (.ref r84)] [(.int (5 : Int32)), (.ref b76), (.ref r84)])
            refine Goes.step (fun _ k => XS.iconst X89.here hx rfl (hb hby at_283) k) ?_
            show Goes p e below s _ _ _ T89 (mkF m 284 #[.val (.int p1), .val (.int p2), .val (.int p3), .val (.int p4), .val (.int p5), .val (.int (Int32.ofNat n)), .val (.int (1 : Int32)), .val (.int (0 : Int32)), .val (.int (1 : Int32)), .val (.ref b74), .val (.ref b76), .val (.int (5 : Int32)), .val (.ref r84)] [(.int (5 : Int32)), (.int (5 : Int32)), (.ref b76), (.ref r84)])
            obtain ⟨T90, X90, e90, st90⟩ := callPure X89 hx hZ (y := (⟨"com/example/proxysmith/proxysmith/BytesToByteArrayPinLaw", "same", "([B[BII)Z"⟩ : MethodName)) hown (hw _ (List.mem_of_getElem? (i := 48) rfl)) (hw _ (List.mem_of_getElem? (i := 49) rfl)) (hw _ (List.mem_of_getElem? (i := 50) rfl)) (hw _ (List.mem_of_getElem? (i := 51) rfl)) (by decide) (W := 0) (argsL := [(.ref r84), (.ref b76), (.int (5 : Int32)), (.int (5 : Int32))]) (rest := []) (r := (.int (1 : Int32))) (fun _ _ _ q => q) (rm10a l Z a0 hw [] r84 b76 (5 : Int32) (5 : Int32) h84 n0 z_84 (by decide)) (by decide) (by decide) (by decide) (by decide) e89 (g := (mkF m 284 #[.val (.int p1), .val (.int p2), .val (.int p3), .val (.int p4), .val (.int p5), .val (.int (Int32.ofNat n)), .val (.int (1 : Int32)), .val (.int (0 : Int32)), .val (.int (1 : Int32)), .val (.ref b74), .val (.ref b76), .val (.int (5 : Int32)), .val (.ref r84)] [(.int (5 : Int32)), (.int (5 : Int32)), (.ref b76), (.ref r84)])) rfl (by rw [hml]; rfl) (lenOf pd_0_2 rfl) rfl (by show 2 * 0 + _ ≤ _; exact Nat.le_of_eq rfl) (hb hby at_284)
            refine Goes.step st90 ?_
            show Goes p e below s _ _ _ T90 (mkF m 287 #[.val (.int p1), .val (.int p2), .val (.int p3), .val (.int p4), .val (.int p5), .val (.int (Int32.ofNat n)), .val (.int (1 : Int32)), .val (.int (0 : Int32)), .val (.int (1 : Int32)), .val (.ref b74), .val (.ref b76), .val (.int (5 : Int32)), .val (.ref r84)] [(.int (1 : Int32))])
            refine Goes.step (fun _ k => XS.ifNo X90.here hx rfl (hb hby at_287) rfl ((if0 _ _).trans (feq (by decide : ¬ ((1 : Int32) = (0 : Int32)))).1) k) ?_
            show Goes p e below s _ _ _ T90 (mkF m 290 #[.val (.int p1), .val (.int p2), .val (.int p3), .val (.int p4), .val (.int p5), .val (.int (Int32.ofNat n)), .val (.int (1 : Int32)), .val (.int (0 : Int32)), .val (.int (1 : Int32)), .val (.ref b74), .val (.ref b76), .val (.int (5 : Int32)), .val (.ref r84)] [])
            refine Goes.step (fun _ k => XS.aload X90.here hx rfl (hb hby at_290) rfl rfl k) ?_
            show Goes p e below s _ _ _ T90 (mkF m 292 #[.val (.int p1), .val (.int p2), .val (.int p3), .val (.int p4), .val (.int p5), .val (.int (Int32.ofNat n)), .val (.int (1 : Int32)), .val (.int (0 : Int32)), .val (.int (1 : Int32)), .val (.ref b74), .val (.ref b76), .val (.int (5 : Int32)), .val (.ref r84)] [(.ref r84)])
            refine Goes.step (fun _ k => XS.aload X90.here hx rfl (hb hby at_292) rfl rfl k) ?_
            show Goes p e below s _ _ _ T90 (mkF m 294 #[.val (.int p1), .val (.int p2), .val (.int p3), .val (.int p4), .val (.int p5), .val (.int (Int32.ofNat n)), .val (.int (1 : Int32)), .val (.int (0 : Int32)), .val (.int (1 : Int32)), .val (.ref b74), .val (.ref b76), .val (.int (5 : Int32)), .val (.ref r84)] [(.ref b76), (.ref r84)])
            refine Goes.step (fun _ k => XS.iload X90.here hx rfl (hb hby at_294) rfl k) ?_
            show Goes p e below s _ _ _ T90 (mkF m 296 #[.val (.int p1), .val (.int p2), .val (.int p3), .val (.int p4), .val (.int p5), .val (.int (Int32.ofNat n)), .val (.int (1 : Int32)), .val (.int (0 : Int32)), .val (.int (1 : Int32)), .val (.ref b74), .val (.ref b76), .val (.int (5 : Int32)), .val (.ref r84)] [(.int (5 : Int32)), (.ref b76), (.ref r84)])
            refine Goes.step (fun _ k => XS.bipush X90.here hx rfl (hb hby at_296) k) ?_
            show Goes p e below s _ _ _ T90 (mkF m 298 #[.val (.int p1), .val (.int p2), .val (.int p3), .val (.int p4), .val (.int p5), .val (.int (Int32.ofNat n)), .val (.int (1 : Int32)), .val (.int (0 : Int32)), .val (.int (1 : Int32)), .val (.ref b74), .val (.ref b76), .val (.int (5 : Int32)), .val (.ref r84)] [(.int (6 : Int32)), (.int (5 : Int32)), (.ref b76), (.ref r84)])
            obtain ⟨T91, X91, e91, st91⟩ := callPure X90 hx hZ (y := (⟨"com/example/proxysmith/proxysmith/BytesToByteArrayPinLaw", "same", "([B[BII)Z"⟩ : MethodName)) hown (hw _ (List.mem_of_getElem? (i := 48) rfl)) (hw _ (List.mem_of_getElem? (i := 49) rfl)) (hw _ (List.mem_of_getElem? (i := 50) rfl)) (hw _ (List.mem_of_getElem? (i := 51) rfl)) (by decide) (W := 0) (argsL := [(.ref r84), (.ref b76), (.int (5 : Int32)), (.int (6 : Int32))]) (rest := []) (r := (.int (1 : Int32))) (fun _ _ _ q => q) (rm10a l Z a0 hw [] r84 b76 (5 : Int32) (6 : Int32) h84 n0 z_84 (by decide)) (by decide) (by decide) (by decide) (by decide) e90 (g := (mkF m 298 #[.val (.int p1), .val (.int p2), .val (.int p3), .val (.int p4), .val (.int p5), .val (.int (Int32.ofNat n)), .val (.int (1 : Int32)), .val (.int (0 : Int32)), .val (.int (1 : Int32)), .val (.ref b74), .val (.ref b76), .val (.int (5 : Int32)), .val (.ref r84)] [(.int (6 : Int32)), (.int (5 : Int32)), (.ref b76), (.ref r84)])) rfl (by rw [hml]; rfl) (lenOf pd_0_2 rfl) rfl (by show 2 * 0 + _ ≤ _; exact Nat.le_of_eq rfl) (hb hby at_298)
            refine Goes.step st91 ?_
            show Goes p e below s _ _ _ T91 (mkF m 301 #[.val (.int p1), .val (.int p2), .val (.int p3), .val (.int p4), .val (.int p5), .val (.int (Int32.ofNat n)), .val (.int (1 : Int32)), .val (.int (0 : Int32)), .val (.int (1 : Int32)), .val (.ref b74), .val (.ref b76), .val (.int (5 : Int32)), .val (.ref r84)] [(.int (1 : Int32))])
            refine Goes.step (fun _ k => XS.ifNo X91.here hx rfl (hb hby at_301) rfl ((if0 _ _).trans (feq (by decide : ¬ ((1 : Int32) = (0 : Int32)))).1) k) ?_
            show Goes p e below s _ _ _ T91 (mkF m 304 #[.val (.int p1), .val (.int p2), .val (.int p3), .val (.int p4), .val (.int p5), .val (.int (Int32.ofNat n)), .val (.int (1 : Int32)), .val (.int (0 : Int32)), .val (.int (1 : Int32)), .val (.ref b74), .val (.ref b76), .val (.int (5 : Int32)), .val (.ref r84)] [])
            refine Goes.step (fun _ k => XS.iconst X91.here hx rfl (hb hby at_304) k) ?_
            show Goes p e below s _ _ _ T91 (mkF m 305 #[.val (.int p1), .val (.int p2), .val (.int p3), .val (.int p4), .val (.int p5), .val (.int (Int32.ofNat n)), .val (.int (1 : Int32)), .val (.int (0 : Int32)), .val (.int (1 : Int32)), .val (.ref b74), .val (.ref b76), .val (.int (5 : Int32)), .val (.ref r84)] [(.int (1 : Int32))])
            refine Goes.step (fun _ k => XS.goto X91.here hx rfl (pc0 := 305) (pc' := 309) rfl (hb hby at_305) (by decide) (by decide) k) ?_
            show Goes p e below s _ _ _ T91 (mkF m 309 #[.val (.int p1), .val (.int p2), .val (.int p3), .val (.int p4), .val (.int p5), .val (.int (Int32.ofNat n)), .val (.int (1 : Int32)), .val (.int (0 : Int32)), .val (.int (1 : Int32)), .val (.ref b74), .val (.ref b76), .val (.int (5 : Int32)), .val (.ref r84)] [(.int (1 : Int32))])
            exact Goes.outN X91 hx hlk (t := .boolean) Bd.returns (by simp) (hb hby at_309) ⟨rfl, N_84⟩ (by decide) (by decide)
    · refine Goes.step (fun _ k => XS.ifNo X0.here hx rfl (hb hby at_22) rfl ((if0 _ _).trans (feq hc22).1) k) ?_
      show Goes p e below s _ _ _ s₁ (mkF m 25 #[.val (.int p1), .val (.int p2), .val (.int p3), .val (.int p4), .val (.int p5), .val (.int (Int32.ofNat n)), .val (.int (1 : Int32)), .unset, .unset, .unset, .unset, .unset, .unset] [])
      refine Goes.step (fun _ k => XS.iconst X0.here hx rfl (hb hby at_25) k) ?_
      show Goes p e below s _ _ _ s₁ (mkF m 26 #[.val (.int p1), .val (.int p2), .val (.int p3), .val (.int p4), .val (.int p5), .val (.int (Int32.ofNat n)), .val (.int (1 : Int32)), .unset, .unset, .unset, .unset, .unset, .unset] [(.int (1 : Int32))])
      refine Goes.step (fun _ k => XS.goto X0.here hx rfl (pc0 := 26) (pc' := 30) rfl (hb hby at_26) (by decide) (by decide) k) ?_
      show Goes p e below s _ _ _ s₁ (mkF m 30 #[.val (.int p1), .val (.int p2), .val (.int p3), .val (.int p4), .val (.int p5), .val (.int (Int32.ofNat n)), .val (.int (1 : Int32)), .unset, .unset, .unset, .unset, .unset, .unset] [(.int (1 : Int32))])
      refine Goes.step (fun _ k => XS.istore X0.here hx rfl (hb hby at_30) rfl (l' := #[.val (.int p1), .val (.int p2), .val (.int p3), .val (.int p4), .val (.int p5), .val (.int (Int32.ofNat n)), .val (.int (1 : Int32)), .val (.int (1 : Int32)), .unset, .unset, .unset, .unset, .unset]) rfl k) ?_
      show Goes p e below s _ _ _ s₁ (mkF m 32 #[.val (.int p1), .val (.int p2), .val (.int p3), .val (.int p4), .val (.int p5), .val (.int (Int32.ofNat n)), .val (.int (1 : Int32)), .val (.int (1 : Int32)), .unset, .unset, .unset, .unset, .unset] [])
      refine Goes.step (fun _ k => XS.iloadN X0.here hx rfl (hb hby at_32) rfl k) ?_
      show Goes p e below s _ _ _ s₁ (mkF m 33 #[.val (.int p1), .val (.int p2), .val (.int p3), .val (.int p4), .val (.int p5), .val (.int (Int32.ofNat n)), .val (.int (1 : Int32)), .val (.int (1 : Int32)), .unset, .unset, .unset, .unset, .unset] [(.int p2)])
      refine Goes.step (fun _ k => XS.iconst X0.here hx rfl (hb hby at_33) k) ?_
      show Goes p e below s _ _ _ s₁ (mkF m 34 #[.val (.int p1), .val (.int p2), .val (.int p3), .val (.int p4), .val (.int p5), .val (.int (Int32.ofNat n)), .val (.int (1 : Int32)), .val (.int (1 : Int32)), .unset, .unset, .unset, .unset, .unset] [(.int (4 : Int32)), (.int p2)])
      refine Goes.step (fun _ k => XS.iand X0.here hx rfl (hb hby at_34) rfl k) ?_
      show Goes p e below s _ _ _ s₁ (mkF m 35 #[.val (.int p1), .val (.int p2), .val (.int p3), .val (.int p4), .val (.int p5), .val (.int (Int32.ofNat n)), .val (.int (1 : Int32)), .val (.int (1 : Int32)), .unset, .unset, .unset, .unset, .unset] [(.int (p2 &&& (4 : Int32)))])
      by_cases hc35 : (p2 &&& (4 : Int32)) = (0 : Int32)
      · refine Goes.step (fun _ k => XS.ifYes X0.here hx rfl (pc0 := 35) (pc' := 42) rfl (hb hby at_35) rfl ((if0 _ _).trans (teq hc35).1) (by decide) (by decide) k) ?_
        show Goes p e below s _ _ _ s₁ (mkF m 42 #[.val (.int p1), .val (.int p2), .val (.int p3), .val (.int p4), .val (.int p5), .val (.int (Int32.ofNat n)), .val (.int (1 : Int32)), .val (.int (1 : Int32)), .unset, .unset, .unset, .unset, .unset] [])
        refine Goes.step (fun _ k => XS.iconst X0.here hx rfl (hb hby at_42) k) ?_
        show Goes p e below s _ _ _ s₁ (mkF m 43 #[.val (.int p1), .val (.int p2), .val (.int p3), .val (.int p4), .val (.int p5), .val (.int (Int32.ofNat n)), .val (.int (1 : Int32)), .val (.int (1 : Int32)), .unset, .unset, .unset, .unset, .unset] [(.int (0 : Int32))])
        refine Goes.step (fun _ k => XS.istore X0.here hx rfl (hb hby at_43) rfl (l' := #[.val (.int p1), .val (.int p2), .val (.int p3), .val (.int p4), .val (.int p5), .val (.int (Int32.ofNat n)), .val (.int (1 : Int32)), .val (.int (1 : Int32)), .val (.int (0 : Int32)), .unset, .unset, .unset, .unset]) rfl k) ?_
        show Goes p e below s _ _ _ s₁ (mkF m 45 #[.val (.int p1), .val (.int p2), .val (.int p3), .val (.int p4), .val (.int p5), .val (.int (Int32.ofNat n)), .val (.int (1 : Int32)), .val (.int (1 : Int32)), .val (.int (0 : Int32)), .unset, .unset, .unset, .unset] [])
        obtain ⟨T92, h92, X92, e92, E92, A92, D92, -, st92⟩ := newO X0 hx hZ hown (hw _ (List.mem_of_getElem? (i := 0) rfl)) (hw _ (List.mem_of_getElem? (i := 1) rfl)) (hw _ (List.mem_of_getElem? (i := 2) rfl)) e0 (g := (mkF m 45 #[.val (.int p1), .val (.int p2), .val (.int p3), .val (.int p4), .val (.int p5), .val (.int (Int32.ofNat n)), .val (.int (1 : Int32)), .val (.int (1 : Int32)), .val (.int (0 : Int32)), .unset, .unset, .unset, .unset] [])) rfl (hb hby at_45) (by decide) (by decide)
        obtain ⟨b92, g_92⟩ : ∃ z, z = h0.size := ⟨_, rfl⟩
        rw [← g_92] at A92 D92 st92
        refine Goes.step st92 ?_
        have ge_b92 : n0 ≤ b92 := by rw [g_92]; exact Z0
        have sz_b92 : h0.size ≤ b92 := by rw [g_92]; exact K0.1
        have z_92 : n0 ≤ h92.size := Nat.le_trans Z0 E92.1
        have K_92 : Keep h0 h92 [] := K0.ext E92
        have E_b92_92 : Exa Z h92 b92 "com/example/proxysmith/proxysmith/ClassFileWriter$Bytes" := A92
        have F_b92_bytes_92 : Fld Z h92 b92 "com/example/proxysmith/proxysmith/ClassFileWriter$Bytes" "bytes" "[B" .null := D92 (Or.inl (hw _ (List.mem_of_getElem? (i := 11) rfl))) (ty := (.array .byte)) (by decide)
        have F_b92_size_92 : Fld Z h92 b92 "com/example/proxysmith/proxysmith/ClassFileWriter$Bytes" "size" "I" (.int (0 : Int32)) := D92 (Or.inl (hw _ (List.mem_of_getElem? (i := 22) rfl))) (ty := .int) (by decide)
        show Goes p e below s _ _ _ T92 (mkF m 48 #[.val (.int p1), .val (.int p2), .val (.int p3), .val (.int p4), .val (.int p5), .val (.int (Int32.ofNat n)), .val (.int (1 : Int32)), .val (.int (1 : Int32)), .val (.int (0 : Int32)), .unset, .unset, .unset, .unset] [(.ref b92)])
        refine Goes.step (fun _ k => XS.dup X92.here hx rfl (hb hby at_48) rfl rfl k) ?_
        show Goes p e below s _ _ _ T92 (mkF m 49 #[.val (.int p1), .val (.int p2), .val (.int p3), .val (.int p4), .val (.int p5), .val (.int (Int32.ofNat n)), .val (.int (1 : Int32)), .val (.int (1 : Int32)), .val (.int (0 : Int32)), .unset, .unset, .unset, .unset] [(.ref b92), (.ref b92)])
        refine Goes.step (fun _ k => XS.iload X92.here hx rfl (hb hby at_49) rfl k) ?_
        show Goes p e below s _ _ _ T92 (mkF m 51 #[.val (.int p1), .val (.int p2), .val (.int p3), .val (.int p4), .val (.int p5), .val (.int (Int32.ofNat n)), .val (.int (1 : Int32)), .val (.int (1 : Int32)), .val (.int (0 : Int32)), .unset, .unset, .unset, .unset] [(.int (Int32.ofNat n)), (.ref b92), (.ref b92)])
        obtain ⟨v93, T93, h93, L93, X93, e93, Q93, st93⟩ := callXI X92 hx hZ (b := b92) (y := (⟨"com/example/proxysmith/proxysmith/ClassFileWriter$Bytes", "<init>", "(I)V"⟩ : MethodName)) hown rfl (hw _ (List.mem_of_getElem? (i := 3) rfl)) (hw _ (List.mem_of_getElem? (i := 4) rfl)) (hw _ (List.mem_of_getElem? (i := 5) rfl)) (hw _ (List.mem_of_getElem? (i := 2) rfl)) (by decide) (W := 1) (argsL := [(.int (Int32.ofNat n))]) (rest := [(.ref b92)]) (rm1 l Z a0 hw [] b92 n h92 n0 z_92 E_b92_92 F_b92_bytes_92 F_b92_size_92 ge_b92 hn) (by decide) (by decide) (by decide) (by decide) e92 (g := (mkF m 51 #[.val (.int p1), .val (.int p2), .val (.int p3), .val (.int p4), .val (.int p5), .val (.int (Int32.ofNat n)), .val (.int (1 : Int32)), .val (.int (1 : Int32)), .val (.int (0 : Int32)), .unset, .unset, .unset, .unset] [(.int (Int32.ofNat n)), (.ref b92), (.ref b92)])) rfl (by rw [hml]; rfl) (lenOf pd_0_0 rfl) rfl (by show 2 * 0 + _ ≤ _; exact Nat.le_of_eq rfl) (hb hby at_51)
        obtain ⟨b93, rfl, NQ93, KQ93, hE93, hFb93, hFs93, hA93, hab93, hg93, hb93⟩ := Q93
        refine Goes.step st93 ?_
        have E_b92_93 := E_b92_92.keep KQ93
        have z_93 : n0 ≤ h93.size := Nat.le_trans z_92 KQ93.1
        have K_93 : Keep h0 h93 [] := Keep.trans K_92 KQ93 (allS (Or.inr sz_b92) all0)
        have N_93 := Fr.app N0 NQ93
        show Goes p e below s _ _ _ T93 (mkF m 54 #[.val (.int p1), .val (.int p2), .val (.int p3), .val (.int p4), .val (.int p5), .val (.int (Int32.ofNat n)), .val (.int (1 : Int32)), .val (.int (1 : Int32)), .val (.int (0 : Int32)), .unset, .unset, .unset, .unset] [(.ref b92)])
        refine Goes.step (fun _ k => XS.astore X93.here hx rfl (hb hby at_54) rfl rfl (l' := #[.val (.int p1), .val (.int p2), .val (.int p3), .val (.int p4), .val (.int p5), .val (.int (Int32.ofNat n)), .val (.int (1 : Int32)), .val (.int (1 : Int32)), .val (.int (0 : Int32)), .val (.ref b92), .unset, .unset, .unset]) rfl k) ?_
        show Goes p e below s _ _ _ T93 (mkF m 56 #[.val (.int p1), .val (.int p2), .val (.int p3), .val (.int p4), .val (.int p5), .val (.int (Int32.ofNat n)), .val (.int (1 : Int32)), .val (.int (1 : Int32)), .val (.int (0 : Int32)), .val (.ref b92), .unset, .unset, .unset] [])
        refine Goes.step (fun _ k => XS.bipush X93.here hx rfl (hb hby at_56) k) ?_
        show Goes p e below s _ _ _ T93 (mkF m 58 #[.val (.int p1), .val (.int p2), .val (.int p3), .val (.int p4), .val (.int p5), .val (.int (Int32.ofNat n)), .val (.int (1 : Int32)), .val (.int (1 : Int32)), .val (.int (0 : Int32)), .val (.ref b92), .unset, .unset, .unset] [(.int (7 : Int32))])
        obtain ⟨T94, h94, X94, e94, E94, A94, st94⟩ := newI X93 hx hZ (hw _ (List.mem_of_getElem? (i := 9) rfl)) e93 (g := (mkF m 58 #[.val (.int p1), .val (.int p2), .val (.int p3), .val (.int p4), .val (.int p5), .val (.int (Int32.ofNat n)), .val (.int (1 : Int32)), .val (.int (1 : Int32)), .val (.int (0 : Int32)), .val (.ref b92), .unset, .unset, .unset] [(.int (7 : Int32))])) rfl (hb hby at_58) rfl (N := 7) rfl (cap := 7) (by decide) (by decide) (by decide) (by decide) rfl (by decide)
        obtain ⟨b94, g_94⟩ : ∃ z, z = h93.size := ⟨_, rfl⟩
        rw [← g_94] at A94 st94
        refine Goes.step st94 ?_
        have ne_b92_b94 : b92 ≠ b94 := Nat.ne_of_lt (by rw [g_94]; exact hE93.lt)
        have ne_b93_b94 : b93 ≠ b94 := Nat.ne_of_lt (by rw [g_94]; exact hA93.lt)
        have ge_b94 : n0 ≤ b94 := by rw [g_94]; exact z_93
        have sz_b94 : h0.size ≤ b94 := by rw [g_94]; exact K_93.1
        have hE93_94 := hE93.ext E94
        have hFb93_94 := hFb93.ext E94
        have hFs93_94 := hFs93.ext E94
        have hA93_94 := hA93.ext E94
        have z_94 : n0 ≤ h94.size := Nat.le_trans z_93 E94.1
        have K_94 : Keep h0 h94 [] := K_93.ext E94
        have A_b94_94 : Ari Z h94 b94 .byte (7) (fun _ => 0) := A94
        show Goes p e below s _ _ _ T94 (mkF m 60 #[.val (.int p1), .val (.int p2), .val (.int p3), .val (.int p4), .val (.int p5), .val (.int (Int32.ofNat n)), .val (.int (1 : Int32)), .val (.int (1 : Int32)), .val (.int (0 : Int32)), .val (.ref b92), .unset, .unset, .unset] [(.ref b94)])
        refine Goes.step (fun _ k => XS.astore X94.here hx rfl (hb hby at_60) rfl rfl (l' := #[.val (.int p1), .val (.int p2), .val (.int p3), .val (.int p4), .val (.int p5), .val (.int (Int32.ofNat n)), .val (.int (1 : Int32)), .val (.int (1 : Int32)), .val (.int (0 : Int32)), .val (.ref b92), .val (.ref b94), .unset, .unset]) rfl k) ?_
        show Goes p e below s _ _ _ T94 (mkF m 62 #[.val (.int p1), .val (.int p2), .val (.int p3), .val (.int p4), .val (.int p5), .val (.int (Int32.ofNat n)), .val (.int (1 : Int32)), .val (.int (1 : Int32)), .val (.int (0 : Int32)), .val (.ref b92), .val (.ref b94), .unset, .unset] [])
        refine Goes.step (fun _ k => XS.iconst X94.here hx rfl (hb hby at_62) k) ?_
        show Goes p e below s _ _ _ T94 (mkF m 63 #[.val (.int p1), .val (.int p2), .val (.int p3), .val (.int p4), .val (.int p5), .val (.int (Int32.ofNat n)), .val (.int (1 : Int32)), .val (.int (1 : Int32)), .val (.int (0 : Int32)), .val (.ref b92), .val (.ref b94), .unset, .unset] [(.int (0 : Int32))])
        refine Goes.step (fun _ k => XS.istore X94.here hx rfl (hb hby at_63) rfl (l' := #[.val (.int p1), .val (.int p2), .val (.int p3), .val (.int p4), .val (.int p5), .val (.int (Int32.ofNat n)), .val (.int (1 : Int32)), .val (.int (1 : Int32)), .val (.int (0 : Int32)), .val (.ref b92), .val (.ref b94), .val (.int (0 : Int32)), .unset]) rfl k) ?_
        show Goes p e below s _ _ _ T94 (mkF m 65 #[.val (.int p1), .val (.int p2), .val (.int p3), .val (.int p4), .val (.int p5), .val (.int (Int32.ofNat n)), .val (.int (1 : Int32)), .val (.int (1 : Int32)), .val (.int (0 : Int32)), .val (.ref b92), .val (.ref b94), .val (.int (0 : Int32)), .unset] [])
        refine Goes.step (fun _ k => XS.iload X94.here hx rfl (hb hby at_65) rfl k) ?_
        show Goes p e below s _ _ _ T94 (mkF m 67 #[.val (.int p1), .val (.int p2), .val (.int p3), .val (.int p4), .val (.int p5), .val (.int (Int32.ofNat n)), .val (.int (1 : Int32)), .val (.int (1 : Int32)), .val (.int (0 : Int32)), .val (.ref b92), .val (.ref b94), .val (.int (0 : Int32)), .unset] [(.int (1 : Int32))])
        refine Goes.step (fun _ k => XS.ifNo X94.here hx rfl (hb hby at_67) rfl ((if0 _ _).trans (feq (by decide : ¬ ((1 : Int32) = (0 : Int32)))).1) k) ?_
        show Goes p e below s _ _ _ T94 (mkF m 70 #[.val (.int p1), .val (.int p2), .val (.int p3), .val (.int p4), .val (.int p5), .val (.int (Int32.ofNat n)), .val (.int (1 : Int32)), .val (.int (1 : Int32)), .val (.int (0 : Int32)), .val (.ref b92), .val (.ref b94), .val (.int (0 : Int32)), .unset] [])
        refine Goes.step (fun _ k => XS.aload X94.here hx rfl (hb hby at_70) rfl rfl k) ?_
        show Goes p e below s _ _ _ T94 (mkF m 72 #[.val (.int p1), .val (.int p2), .val (.int p3), .val (.int p4), .val (.int p5), .val (.int (Int32.ofNat n)), .val (.int (1 : Int32)), .val (.int (1 : Int32)), .val (.int (0 : Int32)), .val (.ref b92), .val (.ref b94), .val (.int (0 : Int32)), .unset] [(.ref b94)])
        refine Goes.step (fun _ k => XS.iload X94.here hx rfl (hb hby at_72) rfl k) ?_
        show Goes p e below s _ _ _ T94 (mkF m 74 #[.val (.int p1), .val (.int p2), .val (.int p3), .val (.int p4), .val (.int p5), .val (.int (Int32.ofNat n)), .val (.int (1 : Int32)), .val (.int (1 : Int32)), .val (.int (0 : Int32)), .val (.ref b92), .val (.ref b94), .val (.int (0 : Int32)), .unset] [(.int (0 : Int32)), (.ref b94)])
        refine Goes.step (fun _ k => XS.iloadN X94.here hx rfl (hb hby at_74) rfl k) ?_
        show Goes p e below s _ _ _ T94 (mkF m 75 #[.val (.int p1), .val (.int p2), .val (.int p3), .val (.int p4), .val (.int p5), .val (.int (Int32.ofNat n)), .val (.int (1 : Int32)), .val (.int (1 : Int32)), .val (.int (0 : Int32)), .val (.ref b92), .val (.ref b94), .val (.int (0 : Int32)), .unset] [(.int p3), (.int (0 : Int32)), (.ref b94)])
        refine Goes.step (fun _ k => XS.i2b X94.here hx rfl (hb hby at_75) rfl k) ?_
        show Goes p e below s _ _ _ T94 (mkF m 76 #[.val (.int p1), .val (.int p2), .val (.int p3), .val (.int p4), .val (.int p5), .val (.int (Int32.ofNat n)), .val (.int (1 : Int32)), .val (.int (1 : Int32)), .val (.int (0 : Int32)), .val (.ref b92), .val (.ref b94), .val (.int (0 : Int32)), .unset] [(.int (p3.toInt8.toInt32)), (.int (0 : Int32)), (.ref b94)])
        obtain ⟨T95, h95, X95, e95, W95, A95, st95⟩ := stoB X94 hx hZ e94 A_b94_94 (0) rfl (by decide) (g := (mkF m 76 #[.val (.int p1), .val (.int p2), .val (.int p3), .val (.int p4), .val (.int p5), .val (.int (Int32.ofNat n)), .val (.int (1 : Int32)), .val (.int (1 : Int32)), .val (.int (0 : Int32)), .val (.ref b92), .val (.ref b94), .val (.int (0 : Int32)), .unset] [(.int (p3.toInt8.toInt32)), (.int (0 : Int32)), (.ref b94)])) rfl rfl (hb hby at_76)
        refine Goes.step st95 ?_
        have hE93_95 := hE93_94.wr W95
        have hFb93_95 := hFb93_94.other W95 (Or.inl ne_b92_b94)
        have hFs93_95 := hFs93_94.other W95 (Or.inl ne_b92_b94)
        have hA93_95 := hA93_94.other W95 ne_b93_b94
        have z_95 : n0 ≤ h95.size := by rw [W95.size]; exact z_94
        have K_95 : Keep h0 h95 [] := K_94.wr W95 (Or.inr sz_b94)
        have N_95 := Fr.snoc X95 N_93 ge_b94
        have A_b94_95 : Ari Z h95 b94 .byte (7) (updI (fun _ => 0) (0) ((p3.toInt8.toInt32).toInt8.toInt32)) := A95
        show Goes p e below s _ _ _ T95 (mkF m 77 #[.val (.int p1), .val (.int p2), .val (.int p3), .val (.int p4), .val (.int p5), .val (.int (Int32.ofNat n)), .val (.int (1 : Int32)), .val (.int (1 : Int32)), .val (.int (0 : Int32)), .val (.ref b92), .val (.ref b94), .val (.int (0 : Int32)), .unset] [])
        refine Goes.step (fun _ k => XS.iload X95.here hx rfl (hb hby at_77) rfl k) ?_
        show Goes p e below s _ _ _ T95 (mkF m 79 #[.val (.int p1), .val (.int p2), .val (.int p3), .val (.int p4), .val (.int p5), .val (.int (Int32.ofNat n)), .val (.int (1 : Int32)), .val (.int (1 : Int32)), .val (.int (0 : Int32)), .val (.ref b92), .val (.ref b94), .val (.int (0 : Int32)), .unset] [(.int (0 : Int32))])
        refine Goes.step (fun _ k => XS.iconst X95.here hx rfl (hb hby at_79) k) ?_
        show Goes p e below s _ _ _ T95 (mkF m 80 #[.val (.int p1), .val (.int p2), .val (.int p3), .val (.int p4), .val (.int p5), .val (.int (Int32.ofNat n)), .val (.int (1 : Int32)), .val (.int (1 : Int32)), .val (.int (0 : Int32)), .val (.ref b92), .val (.ref b94), .val (.int (0 : Int32)), .unset] [(.int (1 : Int32)), (.int (0 : Int32))])
        refine Goes.step (fun _ k => XS.iadd X95.here hx rfl (hb hby at_80) rfl k) ?_
        show Goes p e below s _ _ _ T95 (mkF m 81 #[.val (.int p1), .val (.int p2), .val (.int p3), .val (.int p4), .val (.int p5), .val (.int (Int32.ofNat n)), .val (.int (1 : Int32)), .val (.int (1 : Int32)), .val (.int (0 : Int32)), .val (.ref b92), .val (.ref b94), .val (.int (0 : Int32)), .unset] [(.int (1 : Int32))])
        refine Goes.step (fun _ k => XS.istore X95.here hx rfl (hb hby at_81) rfl (l' := #[.val (.int p1), .val (.int p2), .val (.int p3), .val (.int p4), .val (.int p5), .val (.int (Int32.ofNat n)), .val (.int (1 : Int32)), .val (.int (1 : Int32)), .val (.int (0 : Int32)), .val (.ref b92), .val (.ref b94), .val (.int (1 : Int32)), .unset]) rfl k) ?_
        show Goes p e below s _ _ _ T95 (mkF m 83 #[.val (.int p1), .val (.int p2), .val (.int p3), .val (.int p4), .val (.int p5), .val (.int (Int32.ofNat n)), .val (.int (1 : Int32)), .val (.int (1 : Int32)), .val (.int (0 : Int32)), .val (.ref b92), .val (.ref b94), .val (.int (1 : Int32)), .unset] [])
        refine Goes.step (fun _ k => XS.aload X95.here hx rfl (hb hby at_83) rfl rfl k) ?_
        show Goes p e below s _ _ _ T95 (mkF m 85 #[.val (.int p1), .val (.int p2), .val (.int p3), .val (.int p4), .val (.int p5), .val (.int (Int32.ofNat n)), .val (.int (1 : Int32)), .val (.int (1 : Int32)), .val (.int (0 : Int32)), .val (.ref b92), .val (.ref b94), .val (.int (1 : Int32)), .unset] [(.ref b92)])
        refine Goes.step (fun _ k => XS.iloadN X95.here hx rfl (hb hby at_85) rfl k) ?_
        show Goes p e below s _ _ _ T95 (mkF m 86 #[.val (.int p1), .val (.int p2), .val (.int p3), .val (.int p4), .val (.int p5), .val (.int (Int32.ofNat n)), .val (.int (1 : Int32)), .val (.int (1 : Int32)), .val (.int (0 : Int32)), .val (.ref b92), .val (.ref b94), .val (.int (1 : Int32)), .unset] [(.int p3), (.ref b92)])
        obtain ⟨v96, T96, h96, L96, X96, e96, Q96, st96⟩ := callXV X95 hx hZ (C := "com/example/proxysmith/proxysmith/ClassFileWriter$Bytes") (b := b92) (y := (⟨"com/example/proxysmith/proxysmith/ClassFileWriter$Bytes", "u1", "(I)V"⟩ : MethodName)) (z := (⟨"com/example/proxysmith/proxysmith/ClassFileWriter$Bytes", "u1", "(I)V"⟩ : MethodName)) hown (hw _ (List.mem_of_getElem? (i := 12) rfl)) (hw _ (List.mem_of_getElem? (i := 13) rfl)) (hw _ (List.mem_of_getElem? (i := 15) rfl)) (hw _ (List.mem_of_getElem? (i := 14) rfl)) (hw _ (List.mem_of_getElem? (i := 16) rfl)) (hw _ (List.mem_of_getElem? (i := 2) rfl)) (notFace_of_selects (args := #[]) (mvT hZ (hw _ (List.mem_of_getElem? (i := 15) rfl)))) (by decide) (W := 0) (argsL := [(.int p3)]) (rest := []) (rm3 l Z a0 hw [] b92 p3 b93 n 0 (fun _ => 0) h95 n0 z_95 hE93_95 hFb93_95 hFs93_95 hA93_95 hab93 ge_b92 hg93 (Nat.zero_le n) (Nat.le_trans hn (by decide)) (by omega)) (by decide) (by decide) (by decide) (by decide) e95 hE93_95 (g := (mkF m 86 #[.val (.int p1), .val (.int p2), .val (.int p3), .val (.int p4), .val (.int p5), .val (.int (Int32.ofNat n)), .val (.int (1 : Int32)), .val (.int (1 : Int32)), .val (.int (0 : Int32)), .val (.ref b92), .val (.ref b94), .val (.int (1 : Int32)), .unset] [(.int p3), (.ref b92)])) rfl (by rw [hml]; rfl) (lenOf pd_0_0 rfl) rfl (by show 2 * 0 + _ ≤ _; exact Nat.le_of_eq rfl) (hb hby at_86)
        obtain ⟨b96, n96, f96, rfl, NQ96, KQ96, hE96, hFb96, hFs96, hA96, hab96, hg96, ho96, hs96, hn96, hf96, hv96⟩ := Q96
        refine Goes.step st96 ?_
        have hE93_96 := hE93_95.keep KQ96
        have A_b94_96 := A_b94_95.keep KQ96 (ninS (Ne.symm ne_b92_b94) (ninS (Ne.symm ne_b93_b94) nin0))
        have z_96 : n0 ≤ h96.size := Nat.le_trans z_95 KQ96.1
        have K_96 : Keep h0 h96 [] := Keep.trans K_95 KQ96 (allS (Or.inr sz_b92) (allS (Or.inr (Nat.le_trans K_92.1 hb93)) all0))
        have N_96 := Fr.app N_95 NQ96
        have ne_b94_b96 : b94 ≠ b96 := ho96.elim (fun q z => (Ne.symm ne_b93_b94) (z.trans q)) (fun q => Nat.ne_of_lt (Nat.lt_of_lt_of_le A_b94_95.lt q))
        have mem_b96 : b96 ∈ [] ∨ h0.size ≤ b96 := ho96.elim (fun q => q ▸ (Or.inr (Nat.le_trans K_92.1 hb93))) (fun q => Or.inr (Nat.le_trans K_95.1 q))
        show Goes p e below s _ _ _ T96 (mkF m 89 #[.val (.int p1), .val (.int p2), .val (.int p3), .val (.int p4), .val (.int p5), .val (.int (Int32.ofNat n)), .val (.int (1 : Int32)), .val (.int (1 : Int32)), .val (.int (0 : Int32)), .val (.ref b92), .val (.ref b94), .val (.int (1 : Int32)), .unset] [])
        refine Goes.step (fun _ k => XS.iload X96.here hx rfl (hb hby at_89) rfl k) ?_
        show Goes p e below s _ _ _ T96 (mkF m 91 #[.val (.int p1), .val (.int p2), .val (.int p3), .val (.int p4), .val (.int p5), .val (.int (Int32.ofNat n)), .val (.int (1 : Int32)), .val (.int (1 : Int32)), .val (.int (0 : Int32)), .val (.ref b92), .val (.ref b94), .val (.int (1 : Int32)), .unset] [(.int (1 : Int32))])
        refine Goes.step (fun _ k => XS.ifNo X96.here hx rfl (hb hby at_91) rfl ((if0 _ _).trans (feq (by decide : ¬ ((1 : Int32) = (0 : Int32)))).1) k) ?_
        show Goes p e below s _ _ _ T96 (mkF m 94 #[.val (.int p1), .val (.int p2), .val (.int p3), .val (.int p4), .val (.int p5), .val (.int (Int32.ofNat n)), .val (.int (1 : Int32)), .val (.int (1 : Int32)), .val (.int (0 : Int32)), .val (.ref b92), .val (.ref b94), .val (.int (1 : Int32)), .unset] [])
        refine Goes.step (fun _ k => XS.aload X96.here hx rfl (hb hby at_94) rfl rfl k) ?_
        show Goes p e below s _ _ _ T96 (mkF m 96 #[.val (.int p1), .val (.int p2), .val (.int p3), .val (.int p4), .val (.int p5), .val (.int (Int32.ofNat n)), .val (.int (1 : Int32)), .val (.int (1 : Int32)), .val (.int (0 : Int32)), .val (.ref b92), .val (.ref b94), .val (.int (1 : Int32)), .unset] [(.ref b94)])
        refine Goes.step (fun _ k => XS.iload X96.here hx rfl (hb hby at_96) rfl k) ?_
        show Goes p e below s _ _ _ T96 (mkF m 98 #[.val (.int p1), .val (.int p2), .val (.int p3), .val (.int p4), .val (.int p5), .val (.int (Int32.ofNat n)), .val (.int (1 : Int32)), .val (.int (1 : Int32)), .val (.int (0 : Int32)), .val (.ref b92), .val (.ref b94), .val (.int (1 : Int32)), .unset] [(.int (1 : Int32)), (.ref b94)])
        refine Goes.step (fun _ k => XS.iloadN X96.here hx rfl (hb hby at_98) rfl k) ?_
        show Goes p e below s _ _ _ T96 (mkF m 99 #[.val (.int p1), .val (.int p2), .val (.int p3), .val (.int p4), .val (.int p5), .val (.int (Int32.ofNat n)), .val (.int (1 : Int32)), .val (.int (1 : Int32)), .val (.int (0 : Int32)), .val (.ref b92), .val (.ref b94), .val (.int (1 : Int32)), .unset] [(.int p4), (.int (1 : Int32)), (.ref b94)])
        refine Goes.step (fun _ k => XS.bipush X96.here hx rfl (hb hby at_99) k) ?_
        show Goes p e below s _ _ _ T96 (mkF m 101 #[.val (.int p1), .val (.int p2), .val (.int p3), .val (.int p4), .val (.int p5), .val (.int (Int32.ofNat n)), .val (.int (1 : Int32)), .val (.int (1 : Int32)), .val (.int (0 : Int32)), .val (.ref b92), .val (.ref b94), .val (.int (1 : Int32)), .unset] [(.int (8 : Int32)), (.int p4), (.int (1 : Int32)), (.ref b94)])
        refine Goes.step (fun _ k => XS.iushr X96.here hx rfl (hb hby at_101) rfl k) ?_
        show Goes p e below s _ _ _ T96 (mkF m 102 #[.val (.int p1), .val (.int p2), .val (.int p3), .val (.int p4), .val (.int p5), .val (.int (Int32.ofNat n)), .val (.int (1 : Int32)), .val (.int (1 : Int32)), .val (.int (0 : Int32)), .val (.ref b92), .val (.ref b94), .val (.int (1 : Int32)), .unset] [(.int ((p4.toUInt32 >>> ((8 : Int32) &&& 31).toUInt32).toInt32)), (.int (1 : Int32)), (.ref b94)])
        refine Goes.step (fun _ k => XS.i2b X96.here hx rfl (hb hby at_102) rfl k) ?_
        show Goes p e below s _ _ _ T96 (mkF m 103 #[.val (.int p1), .val (.int p2), .val (.int p3), .val (.int p4), .val (.int p5), .val (.int (Int32.ofNat n)), .val (.int (1 : Int32)), .val (.int (1 : Int32)), .val (.int (0 : Int32)), .val (.ref b92), .val (.ref b94), .val (.int (1 : Int32)), .unset] [(.int (((p4.toUInt32 >>> ((8 : Int32) &&& 31).toUInt32).toInt32).toInt8.toInt32)), (.int (1 : Int32)), (.ref b94)])
        obtain ⟨T97, h97, X97, e97, W97, A97, st97⟩ := stoB X96 hx hZ e96 A_b94_96 (1) rfl (by decide) (g := (mkF m 103 #[.val (.int p1), .val (.int p2), .val (.int p3), .val (.int p4), .val (.int p5), .val (.int (Int32.ofNat n)), .val (.int (1 : Int32)), .val (.int (1 : Int32)), .val (.int (0 : Int32)), .val (.ref b92), .val (.ref b94), .val (.int (1 : Int32)), .unset] [(.int (((p4.toUInt32 >>> ((8 : Int32) &&& 31).toUInt32).toInt32).toInt8.toInt32)), (.int (1 : Int32)), (.ref b94)])) rfl rfl (hb hby at_103)
        refine Goes.step st97 ?_
        have hE96_97 := hE96.wr W97
        have hFb96_97 := hFb96.other W97 (Or.inl ne_b92_b94)
        have hFs96_97 := hFs96.other W97 (Or.inl ne_b92_b94)
        have hA96_97 := hA96.other W97 (Ne.symm ne_b94_b96)
        have z_97 : n0 ≤ h97.size := by rw [W97.size]; exact z_96
        have K_97 : Keep h0 h97 [] := K_96.wr W97 (Or.inr sz_b94)
        have N_97 := Fr.snoc X97 N_96 ge_b94
        have A_b94_97 : Ari Z h97 b94 .byte (7) (updI (updI (fun _ => 0) (0) ((p3.toInt8.toInt32).toInt8.toInt32)) (1) ((((p4.toUInt32 >>> ((8 : Int32) &&& 31).toUInt32).toInt32).toInt8.toInt32).toInt8.toInt32)) := A97
        show Goes p e below s _ _ _ T97 (mkF m 104 #[.val (.int p1), .val (.int p2), .val (.int p3), .val (.int p4), .val (.int p5), .val (.int (Int32.ofNat n)), .val (.int (1 : Int32)), .val (.int (1 : Int32)), .val (.int (0 : Int32)), .val (.ref b92), .val (.ref b94), .val (.int (1 : Int32)), .unset] [])
        refine Goes.step (fun _ k => XS.aload X97.here hx rfl (hb hby at_104) rfl rfl k) ?_
        show Goes p e below s _ _ _ T97 (mkF m 106 #[.val (.int p1), .val (.int p2), .val (.int p3), .val (.int p4), .val (.int p5), .val (.int (Int32.ofNat n)), .val (.int (1 : Int32)), .val (.int (1 : Int32)), .val (.int (0 : Int32)), .val (.ref b92), .val (.ref b94), .val (.int (1 : Int32)), .unset] [(.ref b94)])
        refine Goes.step (fun _ k => XS.iload X97.here hx rfl (hb hby at_106) rfl k) ?_
        show Goes p e below s _ _ _ T97 (mkF m 108 #[.val (.int p1), .val (.int p2), .val (.int p3), .val (.int p4), .val (.int p5), .val (.int (Int32.ofNat n)), .val (.int (1 : Int32)), .val (.int (1 : Int32)), .val (.int (0 : Int32)), .val (.ref b92), .val (.ref b94), .val (.int (1 : Int32)), .unset] [(.int (1 : Int32)), (.ref b94)])
        refine Goes.step (fun _ k => XS.iconst X97.here hx rfl (hb hby at_108) k) ?_
        show Goes p e below s _ _ _ T97 (mkF m 109 #[.val (.int p1), .val (.int p2), .val (.int p3), .val (.int p4), .val (.int p5), .val (.int (Int32.ofNat n)), .val (.int (1 : Int32)), .val (.int (1 : Int32)), .val (.int (0 : Int32)), .val (.ref b92), .val (.ref b94), .val (.int (1 : Int32)), .unset] [(.int (1 : Int32)), (.int (1 : Int32)), (.ref b94)])
        refine Goes.step (fun _ k => XS.iadd X97.here hx rfl (hb hby at_109) rfl k) ?_
        show Goes p e below s _ _ _ T97 (mkF m 110 #[.val (.int p1), .val (.int p2), .val (.int p3), .val (.int p4), .val (.int p5), .val (.int (Int32.ofNat n)), .val (.int (1 : Int32)), .val (.int (1 : Int32)), .val (.int (0 : Int32)), .val (.ref b92), .val (.ref b94), .val (.int (1 : Int32)), .unset] [(.int (2 : Int32)), (.ref b94)])
        refine Goes.step (fun _ k => XS.iloadN X97.here hx rfl (hb hby at_110) rfl k) ?_
        show Goes p e below s _ _ _ T97 (mkF m 111 #[.val (.int p1), .val (.int p2), .val (.int p3), .val (.int p4), .val (.int p5), .val (.int (Int32.ofNat n)), .val (.int (1 : Int32)), .val (.int (1 : Int32)), .val (.int (0 : Int32)), .val (.ref b92), .val (.ref b94), .val (.int (1 : Int32)), .unset] [(.int p4), (.int (2 : Int32)), (.ref b94)])
        refine Goes.step (fun _ k => XS.i2b X97.here hx rfl (hb hby at_111) rfl k) ?_
        show Goes p e below s _ _ _ T97 (mkF m 112 #[.val (.int p1), .val (.int p2), .val (.int p3), .val (.int p4), .val (.int p5), .val (.int (Int32.ofNat n)), .val (.int (1 : Int32)), .val (.int (1 : Int32)), .val (.int (0 : Int32)), .val (.ref b92), .val (.ref b94), .val (.int (1 : Int32)), .unset] [(.int (p4.toInt8.toInt32)), (.int (2 : Int32)), (.ref b94)])
        obtain ⟨T98, h98, X98, e98, W98, A98, st98⟩ := stoB X97 hx hZ e97 A_b94_97 (2) rfl (by decide) (g := (mkF m 112 #[.val (.int p1), .val (.int p2), .val (.int p3), .val (.int p4), .val (.int p5), .val (.int (Int32.ofNat n)), .val (.int (1 : Int32)), .val (.int (1 : Int32)), .val (.int (0 : Int32)), .val (.ref b92), .val (.ref b94), .val (.int (1 : Int32)), .unset] [(.int (p4.toInt8.toInt32)), (.int (2 : Int32)), (.ref b94)])) rfl rfl (hb hby at_112)
        refine Goes.step st98 ?_
        have hE96_98 := hE96_97.wr W98
        have hFb96_98 := hFb96_97.other W98 (Or.inl ne_b92_b94)
        have hFs96_98 := hFs96_97.other W98 (Or.inl ne_b92_b94)
        have hA96_98 := hA96_97.other W98 (Ne.symm ne_b94_b96)
        have z_98 : n0 ≤ h98.size := by rw [W98.size]; exact z_97
        have K_98 : Keep h0 h98 [] := K_97.wr W98 (Or.inr sz_b94)
        have N_98 := Fr.snoc X98 N_97 ge_b94
        have A_b94_98 : Ari Z h98 b94 .byte (7) (updI (updI (updI (fun _ => 0) (0) ((p3.toInt8.toInt32).toInt8.toInt32)) (1) ((((p4.toUInt32 >>> ((8 : Int32) &&& 31).toUInt32).toInt32).toInt8.toInt32).toInt8.toInt32)) (2) ((p4.toInt8.toInt32).toInt8.toInt32)) := A98
        show Goes p e below s _ _ _ T98 (mkF m 113 #[.val (.int p1), .val (.int p2), .val (.int p3), .val (.int p4), .val (.int p5), .val (.int (Int32.ofNat n)), .val (.int (1 : Int32)), .val (.int (1 : Int32)), .val (.int (0 : Int32)), .val (.ref b92), .val (.ref b94), .val (.int (1 : Int32)), .unset] [])
        refine Goes.step (fun _ k => XS.iload X98.here hx rfl (hb hby at_113) rfl k) ?_
        show Goes p e below s _ _ _ T98 (mkF m 115 #[.val (.int p1), .val (.int p2), .val (.int p3), .val (.int p4), .val (.int p5), .val (.int (Int32.ofNat n)), .val (.int (1 : Int32)), .val (.int (1 : Int32)), .val (.int (0 : Int32)), .val (.ref b92), .val (.ref b94), .val (.int (1 : Int32)), .unset] [(.int (1 : Int32))])
        refine Goes.step (fun _ k => XS.iconst X98.here hx rfl (hb hby at_115) k) ?_
        show Goes p e below s _ _ _ T98 (mkF m 116 #[.val (.int p1), .val (.int p2), .val (.int p3), .val (.int p4), .val (.int p5), .val (.int (Int32.ofNat n)), .val (.int (1 : Int32)), .val (.int (1 : Int32)), .val (.int (0 : Int32)), .val (.ref b92), .val (.ref b94), .val (.int (1 : Int32)), .unset] [(.int (2 : Int32)), (.int (1 : Int32))])
        as_aux_lemma =>
          refine Goes.step (fun _ k => XS.iadd X98.here hx rfl (hb hby at_116) rfl k) ?_
          show Goes p e below s _ _ _ T98 (mkF m 117 #[.val (.int p1), .val (.int p2), .val (.int p3), .val (.int p4), .val (.int p5), .val (.int (Int32.ofNat n)), .val (.int (1 : Int32)), .val (.int (1 : Int32)), .val (.int (0 : Int32)), .val (.ref b92), .val (.ref b94), .val (.int (1 : Int32)), .unset] [(.int (3 : Int32))])
          refine Goes.step (fun _ k => XS.istore X98.here hx rfl (hb hby at_117) rfl (l' := #[.val (.int p1), .val (.int p2), .val (.int p3), .val (.int p4), .val (.int p5), .val (.int (Int32.ofNat n)), .val (.int (1 : Int32)), .val (.int (1 : Int32)), .val (.int (0 : Int32)), .val (.ref b92), .val (.ref b94), .val (.int (3 : Int32)), .unset]) rfl k) ?_
          show Goes p e below s _ _ _ T98 (mkF m 119 #[.val (.int p1), .val (.int p2), .val (.int p3), .val (.int p4), .val (.int p5), .val (.int (Int32.ofNat n)), .val (.int (1 : Int32)), .val (.int (1 : Int32)), .val (.int (0 : Int32)), .val (.ref b92), .val (.ref b94), .val (.int (3 : Int32)), .unset] [])
          refine Goes.step (fun _ k => XS.aload X98.here hx rfl (hb hby at_119) rfl rfl k) ?_
          show Goes p e below s _ _ _ T98 (mkF m 121 #[.val (.int p1), .val (.int p2), .val (.int p3), .val (.int p4), .val (.int p5), .val (.int (Int32.ofNat n)), .val (.int (1 : Int32)), .val (.int (1 : Int32)), .val (.int (0 : Int32)), .val (.ref b92), .val (.ref b94), .val (.int (3 : Int32)), .unset] [(.ref b92)])
          refine Goes.step (fun _ k => XS.iloadN X98.here hx rfl (hb hby at_121) rfl k) ?_
          show Goes p e below s _ _ _ T98 (mkF m 122 #[.val (.int p1), .val (.int p2), .val (.int p3), .val (.int p4), .val (.int p5), .val (.int (Int32.ofNat n)), .val (.int (1 : Int32)), .val (.int (1 : Int32)), .val (.int (0 : Int32)), .val (.ref b92), .val (.ref b94), .val (.int (3 : Int32)), .unset] [(.int p4), (.ref b92)])
          obtain ⟨v99, T99, h99, L99, X99, e99, Q99, st99⟩ := callXV X98 hx hZ (C := "com/example/proxysmith/proxysmith/ClassFileWriter$Bytes") (b := b92) (y := (⟨"com/example/proxysmith/proxysmith/ClassFileWriter$Bytes", "u2", "(I)V"⟩ : MethodName)) (z := (⟨"com/example/proxysmith/proxysmith/ClassFileWriter$Bytes", "u2", "(I)V"⟩ : MethodName)) hown (hw _ (List.mem_of_getElem? (i := 38) rfl)) (hw _ (List.mem_of_getElem? (i := 39) rfl)) (hw _ (List.mem_of_getElem? (i := 41) rfl)) (hw _ (List.mem_of_getElem? (i := 40) rfl)) (hw _ (List.mem_of_getElem? (i := 42) rfl)) (hw _ (List.mem_of_getElem? (i := 2) rfl)) (notFace_of_selects (args := #[]) (mvT hZ (hw _ (List.mem_of_getElem? (i := 41) rfl)))) (by decide) (W := 0) (argsL := [(.int p4)]) (rest := []) (rm8 l Z a0 hw [] b92 p4 b96 n96 (0 + 1) f96 h98 n0 z_98 hE96_98 hFb96_98 hFs96_98 hA96_98 hab96 ge_b92 hg96 hs96 hn96 (by omega)) (by decide) (by decide) (by decide) (by decide) e98 hE96_98 (g := (mkF m 122 #[.val (.int p1), .val (.int p2), .val (.int p3), .val (.int p4), .val (.int p5), .val (.int (Int32.ofNat n)), .val (.int (1 : Int32)), .val (.int (1 : Int32)), .val (.int (0 : Int32)), .val (.ref b92), .val (.ref b94), .val (.int (3 : Int32)), .unset] [(.int p4), (.ref b92)])) rfl (by rw [hml]; rfl) (lenOf pd_0_0 rfl) rfl (by show 2 * 0 + _ ≤ _; exact Nat.le_of_eq rfl) (hb hby at_122)
          obtain ⟨b99, n99, f99, rfl, NQ99, KQ99, hE99, hFb99, hFs99, hA99, hab99, hg99, ho99, hs99, hn99, hf99, hv99, hu99⟩ := Q99
          refine Goes.step st99 ?_
          have hE96_99 := hE96_98.keep KQ99
          have A_b94_99 := A_b94_98.keep KQ99 (ninS (Ne.symm ne_b92_b94) (ninS ne_b94_b96 nin0))
          have z_99 : n0 ≤ h99.size := Nat.le_trans z_98 KQ99.1
          have K_99 : Keep h0 h99 [] := Keep.trans K_98 KQ99 (allS (Or.inr sz_b92) (allS mem_b96 all0))
          have N_99 := Fr.app N_98 NQ99
          have ne_b94_b99 : b94 ≠ b99 := ho99.elim (fun q z => ne_b94_b96 (z.trans q)) (fun q => Nat.ne_of_lt (Nat.lt_of_lt_of_le A_b94_98.lt q))
          have mem_b99 : b99 ∈ [] ∨ h0.size ≤ b99 := ho99.elim (fun q => q ▸ mem_b96) (fun q => Or.inr (Nat.le_trans K_98.1 q))
          show Goes p e below s _ _ _ T99 (mkF m 125 #[.val (.int p1), .val (.int p2), .val (.int p3), .val (.int p4), .val (.int p5), .val (.int (Int32.ofNat n)), .val (.int (1 : Int32)), .val (.int (1 : Int32)), .val (.int (0 : Int32)), .val (.ref b92), .val (.ref b94), .val (.int (3 : Int32)), .unset] [])
          refine Goes.step (fun _ k => XS.iload X99.here hx rfl (hb hby at_125) rfl k) ?_
          show Goes p e below s _ _ _ T99 (mkF m 127 #[.val (.int p1), .val (.int p2), .val (.int p3), .val (.int p4), .val (.int p5), .val (.int (Int32.ofNat n)), .val (.int (1 : Int32)), .val (.int (1 : Int32)), .val (.int (0 : Int32)), .val (.ref b92), .val (.ref b94), .val (.int (3 : Int32)), .unset] [(.int (0 : Int32))])
          refine Goes.step (fun _ k => XS.ifYes X99.here hx rfl (pc0 := 127) (pc' := 190) rfl (hb hby at_127) rfl ((if0 _ _).trans (teq (by decide : (0 : Int32) = (0 : Int32))).1) (by decide) (by decide) k) ?_
          show Goes p e below s _ _ _ T99 (mkF m 190 #[.val (.int p1), .val (.int p2), .val (.int p3), .val (.int p4), .val (.int p5), .val (.int (Int32.ofNat n)), .val (.int (1 : Int32)), .val (.int (1 : Int32)), .val (.int (0 : Int32)), .val (.ref b92), .val (.ref b94), .val (.int (3 : Int32)), .unset] [])
          refine Goes.step (fun _ k => XS.aload X99.here hx rfl (hb hby at_190) rfl rfl k) ?_
          show Goes p e below s _ _ _ T99 (mkF m 192 #[.val (.int p1), .val (.int p2), .val (.int p3), .val (.int p4), .val (.int p5), .val (.int (Int32.ofNat n)), .val (.int (1 : Int32)), .val (.int (1 : Int32)), .val (.int (0 : Int32)), .val (.ref b92), .val (.ref b94), .val (.int (3 : Int32)), .unset] [(.ref b92)])
          obtain ⟨v100, T100, h100, L100, X100, e100, Q100, st100⟩ := callXV X99 hx hZ (C := "com/example/proxysmith/proxysmith/ClassFileWriter$Bytes") (b := b92) (y := (⟨"com/example/proxysmith/proxysmith/ClassFileWriter$Bytes", "toByteArray", "()[B"⟩ : MethodName)) (z := (⟨"com/example/proxysmith/proxysmith/ClassFileWriter$Bytes", "toByteArray", "()[B"⟩ : MethodName)) hown (hw _ (List.mem_of_getElem? (i := 43) rfl)) (hw _ (List.mem_of_getElem? (i := 44) rfl)) (hw _ (List.mem_of_getElem? (i := 46) rfl)) (hw _ (List.mem_of_getElem? (i := 45) rfl)) (hw _ (List.mem_of_getElem? (i := 47) rfl)) (hw _ (List.mem_of_getElem? (i := 2) rfl)) (notFace_of_selects (args := #[]) (mvT hZ (hw _ (List.mem_of_getElem? (i := 46) rfl)))) (by decide) (W := 0) (argsL := []) (rest := []) (rm9 l Z a0 hw [] b92 b99 n99 3 f99 h99 n0 z_99 hE99 hFb99 hFs99 hA99 hab99 ge_b92 hg99 hs99 hn99 (by omega)) (by decide) (by decide) (by decide) (by decide) e99 hE99 (g := (mkF m 192 #[.val (.int p1), .val (.int p2), .val (.int p3), .val (.int p4), .val (.int p5), .val (.int (Int32.ofNat n)), .val (.int (1 : Int32)), .val (.int (1 : Int32)), .val (.int (0 : Int32)), .val (.ref b92), .val (.ref b94), .val (.int (3 : Int32)), .unset] [(.ref b92)])) rfl (by rw [hml]; rfl) (lenOf pd_0_1 rfl) rfl (by show 2 * 0 + _ ≤ _; exact Nat.le_of_eq rfl) (hb hby at_192)
          obtain ⟨r100, rfl, NQ100, KQ100, g100, hA100, hg100⟩ := Q100
          refine Goes.step st100 ?_
          have hE99_100 := hE99.keep KQ100
          have A_b94_100 := A_b94_99.keep KQ100 nin0
          have hFb99_100 := hFb99.keep KQ100 nin0
          have hFs99_100 := hFs99.keep KQ100 nin0
          have hA99_100 := hA99.keep KQ100 nin0
          have z_100 : n0 ≤ h100.size := Nat.le_trans z_99 KQ100.1
          have K_100 : Keep h0 h100 [] := Keep.trans K_99 KQ100 all0
          have N_100 := Fr.app N_99 NQ100
          show Goes p e below s _ _ _ T100 (mkF m 195 #[.val (.int p1), .val (.int p2), .val (.int p3), .val (.int p4), .val (.int p5), .val (.int (Int32.ofNat n)), .val (.int (1 : Int32)), .val (.int (1 : Int32)), .val (.int (0 : Int32)), .val (.ref b92), .val (.ref b94), .val (.int (3 : Int32)), .unset] [(.ref r100)])
          refine Goes.step (fun _ k => XS.astore X100.here hx rfl (hb hby at_195) rfl rfl (l' := #[.val (.int p1), .val (.int p2), .val (.int p3), .val (.int p4), .val (.int p5), .val (.int (Int32.ofNat n)), .val (.int (1 : Int32)), .val (.int (1 : Int32)), .val (.int (0 : Int32)), .val (.ref b92), .val (.ref b94), .val (.int (3 : Int32)), .val (.ref r100)]) rfl k) ?_
          show Goes p e below s _ _ _ T100 (mkF m 197 #[.val (.int p1), .val (.int p2), .val (.int p3), .val (.int p4), .val (.int p5), .val (.int (Int32.ofNat n)), .val (.int (1 : Int32)), .val (.int (1 : Int32)), .val (.int (0 : Int32)), .val (.ref b92), .val (.ref b94), .val (.int (3 : Int32)), .val (.ref r100)] [])
          refine Goes.step (fun _ k => XS.aload X100.here hx rfl (hb hby at_197) rfl rfl k) ?_
          show Goes p e below s _ _ _ T100 (mkF m 199 #[.val (.int p1), .val (.int p2), .val (.int p3), .val (.int p4), .val (.int p5), .val (.int (Int32.ofNat n)), .val (.int (1 : Int32)), .val (.int (1 : Int32)), .val (.int (0 : Int32)), .val (.ref b92), .val (.ref b94), .val (.int (3 : Int32)), .val (.ref r100)] [(.ref r100)])
          refine Goes.step (fun _ k => XS.ifnullNo X100.here hx rfl (hb hby at_199) rfl k) ?_
          show Goes p e below s _ _ _ T100 (mkF m 202 #[.val (.int p1), .val (.int p2), .val (.int p3), .val (.int p4), .val (.int p5), .val (.int (Int32.ofNat n)), .val (.int (1 : Int32)), .val (.int (1 : Int32)), .val (.int (0 : Int32)), .val (.ref b92), .val (.ref b94), .val (.int (3 : Int32)), .val (.ref r100)] [])
          refine Goes.step (fun _ k => XS.aload X100.here hx rfl (hb hby at_202) rfl rfl k) ?_
          show Goes p e below s _ _ _ T100 (mkF m 204 #[.val (.int p1), .val (.int p2), .val (.int p3), .val (.int p4), .val (.int p5), .val (.int (Int32.ofNat n)), .val (.int (1 : Int32)), .val (.int (1 : Int32)), .val (.int (0 : Int32)), .val (.ref b92), .val (.ref b94), .val (.int (3 : Int32)), .val (.ref r100)] [(.ref r100)])
          refine Goes.step (fun _ k => rdL X100 hx hZ e100 hA100 (g := (mkF m 204 #[.val (.int p1), .val (.int p2), .val (.int p3), .val (.int p4), .val (.int p5), .val (.int (Int32.ofNat n)), .val (.int (1 : Int32)), .val (.int (1 : Int32)), .val (.int (0 : Int32)), .val (.ref b92), .val (.ref b94), .val (.int (3 : Int32)), .val (.ref r100)] [(.ref r100)])) rfl rfl (hb hby at_204) _ k) ?_
          show Goes p e below s _ _ _ T100 (mkF m 205 #[.val (.int p1), .val (.int p2), .val (.int p3), .val (.int p4), .val (.int p5), .val (.int (Int32.ofNat n)), .val (.int (1 : Int32)), .val (.int (1 : Int32)), .val (.int (0 : Int32)), .val (.ref b92), .val (.ref b94), .val (.int (3 : Int32)), .val (.ref r100)] [(.int (Int32.ofNat 3))])
          refine Goes.step (fun _ k => XS.iload X100.here hx rfl (hb hby at_205) rfl k) ?_
          show Goes p e below s _ _ _ T100 (mkF m 207 #[.val (.int p1), .val (.int p2), .val (.int p3), .val (.int p4), .val (.int p5), .val (.int (Int32.ofNat n)), .val (.int (1 : Int32)), .val (.int (1 : Int32)), .val (.int (0 : Int32)), .val (.ref b92), .val (.ref b94), .val (.int (3 : Int32)), .val (.ref r100)] [(.int (3 : Int32)), (.int (Int32.ofNat 3))])
          refine Goes.step (fun _ k => XS.icmpYes X100.here hx rfl (pc0 := 207) (pc' := 212) rfl (hb hby at_207) rfl (teq (by decide : (Int32.ofNat 3) = (3 : Int32))).1 (by decide) (by decide) k) ?_
          show Goes p e below s _ _ _ T100 (mkF m 212 #[.val (.int p1), .val (.int p2), .val (.int p3), .val (.int p4), .val (.int p5), .val (.int (Int32.ofNat n)), .val (.int (1 : Int32)), .val (.int (1 : Int32)), .val (.int (0 : Int32)), .val (.ref b92), .val (.ref b94), .val (.int (3 : Int32)), .val (.ref r100)] [])
          refine Goes.step (fun _ k => XS.aload X100.here hx rfl (hb hby at_212) rfl rfl k) ?_
          show Goes p e below s _ _ _ T100 (mkF m 214 #[.val (.int p1), .val (.int p2), .val (.int p3), .val (.int p4), .val (.int p5), .val (.int (Int32.ofNat n)), .val (.int (1 : Int32)), .val (.int (1 : Int32)), .val (.int (0 : Int32)), .val (.ref b92), .val (.ref b94), .val (.int (3 : Int32)), .val (.ref r100)] [(.ref r100)])
          refine Goes.step (fun _ k => XS.aload X100.here hx rfl (hb hby at_214) rfl rfl k) ?_
          show Goes p e below s _ _ _ T100 (mkF m 216 #[.val (.int p1), .val (.int p2), .val (.int p3), .val (.int p4), .val (.int p5), .val (.int (Int32.ofNat n)), .val (.int (1 : Int32)), .val (.int (1 : Int32)), .val (.int (0 : Int32)), .val (.ref b92), .val (.ref b94), .val (.int (3 : Int32)), .val (.ref r100)] [(.ref b94), (.ref r100)])
          refine Goes.step (fun _ k => XS.iload X100.here hx rfl (hb hby at_216) rfl k) ?_
          show Goes p e below s _ _ _ T100 (mkF m 218 #[.val (.int p1), .val (.int p2), .val (.int p3), .val (.int p4), .val (.int p5), .val (.int (Int32.ofNat n)), .val (.int (1 : Int32)), .val (.int (1 : Int32)), .val (.int (0 : Int32)), .val (.ref b92), .val (.ref b94), .val (.int (3 : Int32)), .val (.ref r100)] [(.int (3 : Int32)), (.ref b94), (.ref r100)])
          refine Goes.step (fun _ k => XS.iconst X100.here hx rfl (hb hby at_218) k) ?_
          show Goes p e below s _ _ _ T100 (mkF m 219 #[.val (.int p1), .val (.int p2), .val (.int p3), .val (.int p4), .val (.int p5), .val (.int (Int32.ofNat n)), .val (.int (1 : Int32)), .val (.int (1 : Int32)), .val (.int (0 : Int32)), .val (.ref b92), .val (.ref b94), .val (.int (3 : Int32)), .val (.ref r100)] [(.int (0 : Int32)), (.int (3 : Int32)), (.ref b94), (.ref r100)])
          obtain ⟨T101, X101, e101, st101⟩ := callPure X100 hx hZ (y := (⟨"com/example/proxysmith/proxysmith/BytesToByteArrayPinLaw", "same", "([B[BII)Z"⟩ : MethodName)) hown (hw _ (List.mem_of_getElem? (i := 48) rfl)) (hw _ (List.mem_of_getElem? (i := 49) rfl)) (hw _ (List.mem_of_getElem? (i := 50) rfl)) (hw _ (List.mem_of_getElem? (i := 51) rfl)) (by decide) (W := 0) (argsL := [(.ref r100), (.ref b94), (.int (3 : Int32)), (.int (0 : Int32))]) (rest := []) (r := (.int (1 : Int32))) (fun _ _ _ q => q) (rm10b l Z a0 hw [] r100 b94 (3 : Int32) (0 : Int32) 0 3 7 g100 (updI (updI (updI (fun _ => 0) (0) ((p3.toInt8.toInt32).toInt8.toInt32)) (1) ((((p4.toUInt32 >>> ((8 : Int32) &&& 31).toUInt32).toInt32).toInt8.toInt32).toInt8.toInt32)) (2) ((p4.toInt8.toInt32).toInt8.toInt32)) h100 n0 z_100 (by decide) rfl hA100 A_b94_100 (by decide) (by decide) ((hg100 0 (by omega)).trans (((hf99 0 (by omega)).trans hv96).trans (own_BB _).symm))) (by decide) (by decide) (by decide) (by decide) e100 (g := (mkF m 219 #[.val (.int p1), .val (.int p2), .val (.int p3), .val (.int p4), .val (.int p5), .val (.int (Int32.ofNat n)), .val (.int (1 : Int32)), .val (.int (1 : Int32)), .val (.int (0 : Int32)), .val (.ref b92), .val (.ref b94), .val (.int (3 : Int32)), .val (.ref r100)] [(.int (0 : Int32)), (.int (3 : Int32)), (.ref b94), (.ref r100)])) rfl (by rw [hml]; rfl) (lenOf pd_0_2 rfl) rfl (by show 2 * 0 + _ ≤ _; exact Nat.le_of_eq rfl) (hb hby at_219)
          refine Goes.step st101 ?_
          show Goes p e below s _ _ _ T101 (mkF m 222 #[.val (.int p1), .val (.int p2), .val (.int p3), .val (.int p4), .val (.int p5), .val (.int (Int32.ofNat n)), .val (.int (1 : Int32)), .val (.int (1 : Int32)), .val (.int (0 : Int32)), .val (.ref b92), .val (.ref b94), .val (.int (3 : Int32)), .val (.ref r100)] [(.int (1 : Int32))])
          refine Goes.step (fun _ k => XS.ifNo X101.here hx rfl (hb hby at_222) rfl ((if0 _ _).trans (feq (by decide : ¬ ((1 : Int32) = (0 : Int32)))).1) k) ?_
          show Goes p e below s _ _ _ T101 (mkF m 225 #[.val (.int p1), .val (.int p2), .val (.int p3), .val (.int p4), .val (.int p5), .val (.int (Int32.ofNat n)), .val (.int (1 : Int32)), .val (.int (1 : Int32)), .val (.int (0 : Int32)), .val (.ref b92), .val (.ref b94), .val (.int (3 : Int32)), .val (.ref r100)] [])
          refine Goes.step (fun _ k => XS.aload X101.here hx rfl (hb hby at_225) rfl rfl k) ?_
          show Goes p e below s _ _ _ T101 (mkF m 227 #[.val (.int p1), .val (.int p2), .val (.int p3), .val (.int p4), .val (.int p5), .val (.int (Int32.ofNat n)), .val (.int (1 : Int32)), .val (.int (1 : Int32)), .val (.int (0 : Int32)), .val (.ref b92), .val (.ref b94), .val (.int (3 : Int32)), .val (.ref r100)] [(.ref r100)])
          refine Goes.step (fun _ k => XS.aload X101.here hx rfl (hb hby at_227) rfl rfl k) ?_
          show Goes p e below s _ _ _ T101 (mkF m 229 #[.val (.int p1), .val (.int p2), .val (.int p3), .val (.int p4), .val (.int p5), .val (.int (Int32.ofNat n)), .val (.int (1 : Int32)), .val (.int (1 : Int32)), .val (.int (0 : Int32)), .val (.ref b92), .val (.ref b94), .val (.int (3 : Int32)), .val (.ref r100)] [(.ref b94), (.ref r100)])
          refine Goes.step (fun _ k => XS.iload X101.here hx rfl (hb hby at_229) rfl k) ?_
          show Goes p e below s _ _ _ T101 (mkF m 231 #[.val (.int p1), .val (.int p2), .val (.int p3), .val (.int p4), .val (.int p5), .val (.int (Int32.ofNat n)), .val (.int (1 : Int32)), .val (.int (1 : Int32)), .val (.int (0 : Int32)), .val (.ref b92), .val (.ref b94), .val (.int (3 : Int32)), .val (.ref r100)] [(.int (3 : Int32)), (.ref b94), (.ref r100)])
          refine Goes.step (fun _ k => XS.iconst X101.here hx rfl (hb hby at_231) k) ?_
          show Goes p e below s _ _ _ T101 (mkF m 232 #[.val (.int p1), .val (.int p2), .val (.int p3), .val (.int p4), .val (.int p5), .val (.int (Int32.ofNat n)), .val (.int (1 : Int32)), .val (.int (1 : Int32)), .val (.int (0 : Int32)), .val (.ref b92), .val (.ref b94), .val (.int (3 : Int32)), .val (.ref r100)] [(.int (1 : Int32)), (.int (3 : Int32)), (.ref b94), (.ref r100)])
          obtain ⟨T102, X102, e102, st102⟩ := callPure X101 hx hZ (y := (⟨"com/example/proxysmith/proxysmith/BytesToByteArrayPinLaw", "same", "([B[BII)Z"⟩ : MethodName)) hown (hw _ (List.mem_of_getElem? (i := 48) rfl)) (hw _ (List.mem_of_getElem? (i := 49) rfl)) (hw _ (List.mem_of_getElem? (i := 50) rfl)) (hw _ (List.mem_of_getElem? (i := 51) rfl)) (by decide) (W := 0) (argsL := [(.ref r100), (.ref b94), (.int (3 : Int32)), (.int (1 : Int32))]) (rest := []) (r := (.int (1 : Int32))) (fun _ _ _ q => q) (rm10b l Z a0 hw [] r100 b94 (3 : Int32) (1 : Int32) 1 3 7 g100 (updI (updI (updI (fun _ => 0) (0) ((p3.toInt8.toInt32).toInt8.toInt32)) (1) ((((p4.toUInt32 >>> ((8 : Int32) &&& 31).toUInt32).toInt32).toInt8.toInt32).toInt8.toInt32)) (2) ((p4.toInt8.toInt32).toInt8.toInt32)) h100 n0 z_100 (by decide) rfl hA100 A_b94_100 (by decide) (by decide) ((hg100 1 (by omega)).trans (hv99.trans (own_BB _).symm))) (by decide) (by decide) (by decide) (by decide) e101 (g := (mkF m 232 #[.val (.int p1), .val (.int p2), .val (.int p3), .val (.int p4), .val (.int p5), .val (.int (Int32.ofNat n)), .val (.int (1 : Int32)), .val (.int (1 : Int32)), .val (.int (0 : Int32)), .val (.ref b92), .val (.ref b94), .val (.int (3 : Int32)), .val (.ref r100)] [(.int (1 : Int32)), (.int (3 : Int32)), (.ref b94), (.ref r100)])) rfl (by rw [hml]; rfl) (lenOf pd_0_2 rfl) rfl (by show 2 * 0 + _ ≤ _; exact Nat.le_of_eq rfl) (hb hby at_232)
          refine Goes.step st102 ?_
          show Goes p e below s _ _ _ T102 (mkF m 235 #[.val (.int p1), .val (.int p2), .val (.int p3), .val (.int p4), .val (.int p5), .val (.int (Int32.ofNat n)), .val (.int (1 : Int32)), .val (.int (1 : Int32)), .val (.int (0 : Int32)), .val (.ref b92), .val (.ref b94), .val (.int (3 : Int32)), .val (.ref r100)] [(.int (1 : Int32))])
          refine Goes.step (fun _ k => XS.ifNo X102.here hx rfl (hb hby at_235) rfl ((if0 _ _).trans (feq (by decide : ¬ ((1 : Int32) = (0 : Int32)))).1) k) ?_
          show Goes p e below s _ _ _ T102 (mkF m 238 #[.val (.int p1), .val (.int p2), .val (.int p3), .val (.int p4), .val (.int p5), .val (.int (Int32.ofNat n)), .val (.int (1 : Int32)), .val (.int (1 : Int32)), .val (.int (0 : Int32)), .val (.ref b92), .val (.ref b94), .val (.int (3 : Int32)), .val (.ref r100)] [])
          refine Goes.step (fun _ k => XS.aload X102.here hx rfl (hb hby at_238) rfl rfl k) ?_
          show Goes p e below s _ _ _ T102 (mkF m 240 #[.val (.int p1), .val (.int p2), .val (.int p3), .val (.int p4), .val (.int p5), .val (.int (Int32.ofNat n)), .val (.int (1 : Int32)), .val (.int (1 : Int32)), .val (.int (0 : Int32)), .val (.ref b92), .val (.ref b94), .val (.int (3 : Int32)), .val (.ref r100)] [(.ref r100)])
          refine Goes.step (fun _ k => XS.aload X102.here hx rfl (hb hby at_240) rfl rfl k) ?_
          show Goes p e below s _ _ _ T102 (mkF m 242 #[.val (.int p1), .val (.int p2), .val (.int p3), .val (.int p4), .val (.int p5), .val (.int (Int32.ofNat n)), .val (.int (1 : Int32)), .val (.int (1 : Int32)), .val (.int (0 : Int32)), .val (.ref b92), .val (.ref b94), .val (.int (3 : Int32)), .val (.ref r100)] [(.ref b94), (.ref r100)])
          refine Goes.step (fun _ k => XS.iload X102.here hx rfl (hb hby at_242) rfl k) ?_
          show Goes p e below s _ _ _ T102 (mkF m 244 #[.val (.int p1), .val (.int p2), .val (.int p3), .val (.int p4), .val (.int p5), .val (.int (Int32.ofNat n)), .val (.int (1 : Int32)), .val (.int (1 : Int32)), .val (.int (0 : Int32)), .val (.ref b92), .val (.ref b94), .val (.int (3 : Int32)), .val (.ref r100)] [(.int (3 : Int32)), (.ref b94), (.ref r100)])
          refine Goes.step (fun _ k => XS.iconst X102.here hx rfl (hb hby at_244) k) ?_
          show Goes p e below s _ _ _ T102 (mkF m 245 #[.val (.int p1), .val (.int p2), .val (.int p3), .val (.int p4), .val (.int p5), .val (.int (Int32.ofNat n)), .val (.int (1 : Int32)), .val (.int (1 : Int32)), .val (.int (0 : Int32)), .val (.ref b92), .val (.ref b94), .val (.int (3 : Int32)), .val (.ref r100)] [(.int (2 : Int32)), (.int (3 : Int32)), (.ref b94), (.ref r100)])
          obtain ⟨T103, X103, e103, st103⟩ := callPure X102 hx hZ (y := (⟨"com/example/proxysmith/proxysmith/BytesToByteArrayPinLaw", "same", "([B[BII)Z"⟩ : MethodName)) hown (hw _ (List.mem_of_getElem? (i := 48) rfl)) (hw _ (List.mem_of_getElem? (i := 49) rfl)) (hw _ (List.mem_of_getElem? (i := 50) rfl)) (hw _ (List.mem_of_getElem? (i := 51) rfl)) (by decide) (W := 0) (argsL := [(.ref r100), (.ref b94), (.int (3 : Int32)), (.int (2 : Int32))]) (rest := []) (r := (.int (1 : Int32))) (fun _ _ _ q => q) (rm10b l Z a0 hw [] r100 b94 (3 : Int32) (2 : Int32) 2 3 7 g100 (updI (updI (updI (fun _ => 0) (0) ((p3.toInt8.toInt32).toInt8.toInt32)) (1) ((((p4.toUInt32 >>> ((8 : Int32) &&& 31).toUInt32).toInt32).toInt8.toInt32).toInt8.toInt32)) (2) ((p4.toInt8.toInt32).toInt8.toInt32)) h100 n0 z_100 (by decide) rfl hA100 A_b94_100 (by decide) (by decide) ((hg100 2 (by omega)).trans (hu99.trans (own_BB _).symm))) (by decide) (by decide) (by decide) (by decide) e102 (g := (mkF m 245 #[.val (.int p1), .val (.int p2), .val (.int p3), .val (.int p4), .val (.int p5), .val (.int (Int32.ofNat n)), .val (.int (1 : Int32)), .val (.int (1 : Int32)), .val (.int (0 : Int32)), .val (.ref b92), .val (.ref b94), .val (.int (3 : Int32)), .val (.ref r100)] [(.int (2 : Int32)), (.int (3 : Int32)), (.ref b94), (.ref r100)])) rfl (by rw [hml]; rfl) (lenOf pd_0_2 rfl) rfl (by show 2 * 0 + _ ≤ _; exact Nat.le_of_eq rfl) (hb hby at_245)
          refine Goes.step st103 ?_
          show Goes p e below s _ _ _ T103 (mkF m 248 #[.val (.int p1), .val (.int p2), .val (.int p3), .val (.int p4), .val (.int p5), .val (.int (Int32.ofNat n)), .val (.int (1 : Int32)), .val (.int (1 : Int32)), .val (.int (0 : Int32)), .val (.ref b92), .val (.ref b94), .val (.int (3 : Int32)), .val (.ref r100)] [(.int (1 : Int32))])
          refine Goes.step (fun _ k => XS.ifNo X103.here hx rfl (hb hby at_248) rfl ((if0 _ _).trans (feq (by decide : ¬ ((1 : Int32) = (0 : Int32)))).1) k) ?_
          show Goes p e below s _ _ _ T103 (mkF m 251 #[.val (.int p1), .val (.int p2), .val (.int p3), .val (.int p4), .val (.int p5), .val (.int (Int32.ofNat n)), .val (.int (1 : Int32)), .val (.int (1 : Int32)), .val (.int (0 : Int32)), .val (.ref b92), .val (.ref b94), .val (.int (3 : Int32)), .val (.ref r100)] [])
          refine Goes.step (fun _ k => XS.aload X103.here hx rfl (hb hby at_251) rfl rfl k) ?_
          show Goes p e below s _ _ _ T103 (mkF m 253 #[.val (.int p1), .val (.int p2), .val (.int p3), .val (.int p4), .val (.int p5), .val (.int (Int32.ofNat n)), .val (.int (1 : Int32)), .val (.int (1 : Int32)), .val (.int (0 : Int32)), .val (.ref b92), .val (.ref b94), .val (.int (3 : Int32)), .val (.ref r100)] [(.ref r100)])
          refine Goes.step (fun _ k => XS.aload X103.here hx rfl (hb hby at_253) rfl rfl k) ?_
          show Goes p e below s _ _ _ T103 (mkF m 255 #[.val (.int p1), .val (.int p2), .val (.int p3), .val (.int p4), .val (.int p5), .val (.int (Int32.ofNat n)), .val (.int (1 : Int32)), .val (.int (1 : Int32)), .val (.int (0 : Int32)), .val (.ref b92), .val (.ref b94), .val (.int (3 : Int32)), .val (.ref r100)] [(.ref b94), (.ref r100)])
          refine Goes.step (fun _ k => XS.iload X103.here hx rfl (hb hby at_255) rfl k) ?_
          show Goes p e below s _ _ _ T103 (mkF m 257 #[.val (.int p1), .val (.int p2), .val (.int p3), .val (.int p4), .val (.int p5), .val (.int (Int32.ofNat n)), .val (.int (1 : Int32)), .val (.int (1 : Int32)), .val (.int (0 : Int32)), .val (.ref b92), .val (.ref b94), .val (.int (3 : Int32)), .val (.ref r100)] [(.int (3 : Int32)), (.ref b94), (.ref r100)])
          refine Goes.step (fun _ k => XS.iconst X103.here hx rfl (hb hby at_257) k) ?_
          show Goes p e below s _ _ _ T103 (mkF m 258 #[.val (.int p1), .val (.int p2), .val (.int p3), .val (.int p4), .val (.int p5), .val (.int (Int32.ofNat n)), .val (.int (1 : Int32)), .val (.int (1 : Int32)), .val (.int (0 : Int32)), .val (.ref b92), .val (.ref b94), .val (.int (3 : Int32)), .val (.ref r100)] [(.int (3 : Int32)), (.int (3 : Int32)), (.ref b94), (.ref r100)])
          obtain ⟨T104, X104, e104, st104⟩ := callPure X103 hx hZ (y := (⟨"com/example/proxysmith/proxysmith/BytesToByteArrayPinLaw", "same", "([B[BII)Z"⟩ : MethodName)) hown (hw _ (List.mem_of_getElem? (i := 48) rfl)) (hw _ (List.mem_of_getElem? (i := 49) rfl)) (hw _ (List.mem_of_getElem? (i := 50) rfl)) (hw _ (List.mem_of_getElem? (i := 51) rfl)) (by decide) (W := 0) (argsL := [(.ref r100), (.ref b94), (.int (3 : Int32)), (.int (3 : Int32))]) (rest := []) (r := (.int (1 : Int32))) (fun _ _ _ q => q) (rm10a l Z a0 hw [] r100 b94 (3 : Int32) (3 : Int32) h100 n0 z_100 (by decide)) (by decide) (by decide) (by decide) (by decide) e103 (g := (mkF m 258 #[.val (.int p1), .val (.int p2), .val (.int p3), .val (.int p4), .val (.int p5), .val (.int (Int32.ofNat n)), .val (.int (1 : Int32)), .val (.int (1 : Int32)), .val (.int (0 : Int32)), .val (.ref b92), .val (.ref b94), .val (.int (3 : Int32)), .val (.ref r100)] [(.int (3 : Int32)), (.int (3 : Int32)), (.ref b94), (.ref r100)])) rfl (by rw [hml]; rfl) (lenOf pd_0_2 rfl) rfl (by show 2 * 0 + _ ≤ _; exact Nat.le_of_eq rfl) (hb hby at_258)
          refine Goes.step st104 ?_
          show Goes p e below s _ _ _ T104 (mkF m 261 #[.val (.int p1), .val (.int p2), .val (.int p3), .val (.int p4), .val (.int p5), .val (.int (Int32.ofNat n)), .val (.int (1 : Int32)), .val (.int (1 : Int32)), .val (.int (0 : Int32)), .val (.ref b92), .val (.ref b94), .val (.int (3 : Int32)), .val (.ref r100)] [(.int (1 : Int32))])
          refine Goes.step (fun _ k => XS.ifNo X104.here hx rfl (hb hby at_261) rfl ((if0 _ _).trans (feq (by decide : ¬ ((1 : Int32) = (0 : Int32)))).1) k) ?_
          show Goes p e below s _ _ _ T104 (mkF m 264 #[.val (.int p1), .val (.int p2), .val (.int p3), .val (.int p4), .val (.int p5), .val (.int (Int32.ofNat n)), .val (.int (1 : Int32)), .val (.int (1 : Int32)), .val (.int (0 : Int32)), .val (.ref b92), .val (.ref b94), .val (.int (3 : Int32)), .val (.ref r100)] [])
          refine Goes.step (fun _ k => XS.aload X104.here hx rfl (hb hby at_264) rfl rfl k) ?_
          show Goes p e below s _ _ _ T104 (mkF m 266 #[.val (.int p1), .val (.int p2), .val (.int p3), .val (.int p4), .val (.int p5), .val (.int (Int32.ofNat n)), .val (.int (1 : Int32)), .val (.int (1 : Int32)), .val (.int (0 : Int32)), .val (.ref b92), .val (.ref b94), .val (.int (3 : Int32)), .val (.ref r100)] [(.ref r100)])
          refine Goes.step (fun _ k => XS.aload X104.here hx rfl (hb hby at_266) rfl rfl k) ?_
          show Goes p e below s _ _ _ T104 (mkF m 268 #[.val (.int p1), .val (.int p2), .val (.int p3), .val (.int p4), .val (.int p5), .val (.int (Int32.ofNat n)), .val (.int (1 : Int32)), .val (.int (1 : Int32)), .val (.int (0 : Int32)), .val (.ref b92), .val (.ref b94), .val (.int (3 : Int32)), .val (.ref r100)] [(.ref b94), (.ref r100)])
          refine Goes.step (fun _ k => XS.iload X104.here hx rfl (hb hby at_268) rfl k) ?_
          show Goes p e below s _ _ _ T104 (mkF m 270 #[.val (.int p1), .val (.int p2), .val (.int p3), .val (.int p4), .val (.int p5), .val (.int (Int32.ofNat n)), .val (.int (1 : Int32)), .val (.int (1 : Int32)), .val (.int (0 : Int32)), .val (.ref b92), .val (.ref b94), .val (.int (3 : Int32)), .val (.ref r100)] [(.int (3 : Int32)), (.ref b94), (.ref r100)])
          refine Goes.step (fun _ k => XS.iconst X104.here hx rfl (hb hby at_270) k) ?_
          show Goes p e below s _ _ _ T104 (mkF m 271 #[.val (.int p1), .val (.int p2), .val (.int p3), .val (.int p4), .val (.int p5), .val (.int (Int32.ofNat n)), .val (.int (1 : Int32)), .val (.int (1 : Int32)), .val (.int (0 : Int32)), .val (.ref b92), .val (.ref b94), .val (.int (3 : Int32)), .val (.ref r100)] [(.int (4 : Int32)), (.int (3 : Int32)), (.ref b94), (.ref r100)])
          obtain ⟨T105, X105, e105, st105⟩ := callPure X104 hx hZ (y := (⟨"com/example/proxysmith/proxysmith/BytesToByteArrayPinLaw", "same", "([B[BII)Z"⟩ : MethodName)) hown (hw _ (List.mem_of_getElem? (i := 48) rfl)) (hw _ (List.mem_of_getElem? (i := 49) rfl)) (hw _ (List.mem_of_getElem? (i := 50) rfl)) (hw _ (List.mem_of_getElem? (i := 51) rfl)) (by decide) (W := 0) (argsL := [(.ref r100), (.ref b94), (.int (3 : Int32)), (.int (4 : Int32))]) (rest := []) (r := (.int (1 : Int32))) (fun _ _ _ q => q) (rm10a l Z a0 hw [] r100 b94 (3 : Int32) (4 : Int32) h100 n0 z_100 (by decide)) (by decide) (by decide) (by decide) (by decide) e104 (g := (mkF m 271 #[.val (.int p1), .val (.int p2), .val (.int p3), .val (.int p4), .val (.int p5), .val (.int (Int32.ofNat n)), .val (.int (1 : Int32)), .val (.int (1 : Int32)), .val (.int (0 : Int32)), .val (.ref b92), .val (.ref b94), .val (.int (3 : Int32)), .val (.ref r100)] [(.int (4 : Int32)), (.int (3 : Int32)), (.ref b94), (.ref r100)])) rfl (by rw [hml]; rfl) (lenOf pd_0_2 rfl) rfl (by show 2 * 0 + _ ≤ _; exact Nat.le_of_eq rfl) (hb hby at_271)
          refine Goes.step st105 ?_
          show Goes p e below s _ _ _ T105 (mkF m 274 #[.val (.int p1), .val (.int p2), .val (.int p3), .val (.int p4), .val (.int p5), .val (.int (Int32.ofNat n)), .val (.int (1 : Int32)), .val (.int (1 : Int32)), .val (.int (0 : Int32)), .val (.ref b92), .val (.ref b94), .val (.int (3 : Int32)), .val (.ref r100)] [(.int (1 : Int32))])
          as_aux_lemma =>
            refine Goes.step (fun _ k => XS.ifNo X105.here hx rfl (hb hby at_274) rfl ((if0 _ _).trans (feq (by decide : ¬ ((1 : Int32) = (0 : Int32)))).1) k) ?_
            show Goes p e below s _ _ _ T105 (mkF m 277 #[.val (.int p1), .val (.int p2), .val (.int p3), .val (.int p4), .val (.int p5), .val (.int (Int32.ofNat n)), .val (.int (1 : Int32)), .val (.int (1 : Int32)), .val (.int (0 : Int32)), .val (.ref b92), .val (.ref b94), .val (.int (3 : Int32)), .val (.ref r100)] [])
            refine Goes.step (fun _ k => XS.aload X105.here hx rfl (hb hby at_277) rfl rfl k) ?_
            show Goes p e below s _ _ _ T105 (mkF m 279 #[.val (.int p1), .val (.int p2), .val (.int p3), .val (.int p4), .val (.int p5), .val (.int (Int32.ofNat n)), .val (.int (1 : Int32)), .val (.int (1 : Int32)), .val (.int (0 : Int32)), .val (.ref b92), .val (.ref b94), .val (.int (3 : Int32)), .val (.ref r100)] [(.ref r100)])
            refine Goes.step (fun _ k => XS.aload X105.here hx rfl (hb hby at_279) rfl rfl k) ?_
            show Goes p e below s _ _ _ T105 (mkF m 281 #[.val (.int p1), .val (.int p2), .val (.int p3), .val (.int p4), .val (.int p5), .val (.int (Int32.ofNat n)), .val (.int (1 : Int32)), .val (.int (1 : Int32)), .val (.int (0 : Int32)), .val (.ref b92), .val (.ref b94), .val (.int (3 : Int32)), .val (.ref r100)] [(.ref b94), (.ref r100)])
            refine Goes.step (fun _ k => XS.iload X105.here hx rfl (hb hby at_281) rfl k) ?_
            show Goes p e below s _ _ _ T105 (mkF m 283 #[.val (.int p1), .val (.int p2), .val (.int p3), .val (.int p4), .val (.int p5), .val (.int (Int32.ofNat n)), .val (.int (1 : Int32)), .val (.int (1 : Int32)), .val (.int (0 : Int32)), .val (.ref b92), .val (.ref b94), .val (.int (3 : Int32)), .val (.ref r100)] [(.int (3 : Int32)), (.ref b94), (.ref r100)])
            refine Goes.step (fun _ k => XS.iconst X105.here hx rfl (hb hby at_283) k) ?_
            show Goes p e below s _ _ _ T105 (mkF m 284 #[.val (.int p1), .val (.int p2), .val (.int p3), .val (.int p4), .val (.int p5), .val (.int (Int32.ofNat n)), .val (.int (1 : Int32)), .val (.int (1 : Int32)), .val (.int (0 : Int32)), .val (.ref b92), .val (.ref b94), .val (.int (3 : Int32)), .val (.ref r100)] [(.int (5 : Int32)), (.int (3 : Int32)), (.ref b94), (.ref r100)])
            obtain ⟨T106, X106, e106, st106⟩ := callPure X105 hx hZ (y := (⟨"com/example/proxysmith/proxysmith/BytesToByteArrayPinLaw", "same", "([B[BII)Z"⟩ : MethodName)) hown (hw _ (List.mem_of_getElem? (i := 48) rfl)) (hw _ (List.mem_of_getElem? (i := 49) rfl)) (hw _ (List.mem_of_getElem? (i := 50) rfl)) (hw _ (List.mem_of_getElem? (i := 51) rfl)) (by decide) (W := 0) (argsL := [(.ref r100), (.ref b94), (.int (3 : Int32)), (.int (5 : Int32))]) (rest := []) (r := (.int (1 : Int32))) (fun _ _ _ q => q) (rm10a l Z a0 hw [] r100 b94 (3 : Int32) (5 : Int32) h100 n0 z_100 (by decide)) (by decide) (by decide) (by decide) (by decide) e105 (g := (mkF m 284 #[.val (.int p1), .val (.int p2), .val (.int p3), .val (.int p4), .val (.int p5), .val (.int (Int32.ofNat n)), .val (.int (1 : Int32)), .val (.int (1 : Int32)), .val (.int (0 : Int32)), .val (.ref b92), .val (.ref b94), .val (.int (3 : Int32)), .val (.ref r100)] [(.int (5 : Int32)), (.int (3 : Int32)), (.ref b94), (.ref r100)])) rfl (by rw [hml]; rfl) (lenOf pd_0_2 rfl) rfl (by show 2 * 0 + _ ≤ _; exact Nat.le_of_eq rfl) (hb hby at_284)
            refine Goes.step st106 ?_
            show Goes p e below s _ _ _ T106 (mkF m 287 #[.val (.int p1), .val (.int p2), .val (.int p3), .val (.int p4), .val (.int p5), .val (.int (Int32.ofNat n)), .val (.int (1 : Int32)), .val (.int (1 : Int32)), .val (.int (0 : Int32)), .val (.ref b92), .val (.ref b94), .val (.int (3 : Int32)), .val (.ref r100)] [(.int (1 : Int32))])
            refine Goes.step (fun _ k => XS.ifNo X106.here hx rfl (hb hby at_287) rfl ((if0 _ _).trans (feq (by decide : ¬ ((1 : Int32) = (0 : Int32)))).1) k) ?_
            show Goes p e below s _ _ _ T106 (mkF m 290 #[.val (.int p1), .val (.int p2), .val (.int p3), .val (.int p4), .val (.int p5), .val (.int (Int32.ofNat n)), .val (.int (1 : Int32)), .val (.int (1 : Int32)), .val (.int (0 : Int32)), .val (.ref b92), .val (.ref b94), .val (.int (3 : Int32)), .val (.ref r100)] [])
            refine Goes.step (fun _ k => XS.aload X106.here hx rfl (hb hby at_290) rfl rfl k) ?_
            show Goes p e below s _ _ _ T106 (mkF m 292 #[.val (.int p1), .val (.int p2), .val (.int p3), .val (.int p4), .val (.int p5), .val (.int (Int32.ofNat n)), .val (.int (1 : Int32)), .val (.int (1 : Int32)), .val (.int (0 : Int32)), .val (.ref b92), .val (.ref b94), .val (.int (3 : Int32)), .val (.ref r100)] [(.ref r100)])
            refine Goes.step (fun _ k => XS.aload X106.here hx rfl (hb hby at_292) rfl rfl k) ?_
            show Goes p e below s _ _ _ T106 (mkF m 294 #[.val (.int p1), .val (.int p2), .val (.int p3), .val (.int p4), .val (.int p5), .val (.int (Int32.ofNat n)), .val (.int (1 : Int32)), .val (.int (1 : Int32)), .val (.int (0 : Int32)), .val (.ref b92), .val (.ref b94), .val (.int (3 : Int32)), .val (.ref r100)] [(.ref b94), (.ref r100)])
            refine Goes.step (fun _ k => XS.iload X106.here hx rfl (hb hby at_294) rfl k) ?_
            show Goes p e below s _ _ _ T106 (mkF m 296 #[.val (.int p1), .val (.int p2), .val (.int p3), .val (.int p4), .val (.int p5), .val (.int (Int32.ofNat n)), .val (.int (1 : Int32)), .val (.int (1 : Int32)), .val (.int (0 : Int32)), .val (.ref b92), .val (.ref b94), .val (.int (3 : Int32)), .val (.ref r100)] [(.int (3 : Int32)), (.ref b94), (.ref r100)])
            refine Goes.step (fun _ k => XS.bipush X106.here hx rfl (hb hby at_296) k) ?_
            show Goes p e below s _ _ _ T106 (mkF m 298 #[.val (.int p1), .val (.int p2), .val (.int p3), .val (.int p4), .val (.int p5), .val (.int (Int32.ofNat n)), .val (.int (1 : Int32)), .val (.int (1 : Int32)), .val (.int (0 : Int32)), .val (.ref b92), .val (.ref b94), .val (.int (3 : Int32)), .val (.ref r100)] [(.int (6 : Int32)), (.int (3 : Int32)), (.ref b94), (.ref r100)])
            obtain ⟨T107, X107, e107, st107⟩ := callPure X106 hx hZ (y := (⟨"com/example/proxysmith/proxysmith/BytesToByteArrayPinLaw", "same", "([B[BII)Z"⟩ : MethodName)) hown (hw _ (List.mem_of_getElem? (i := 48) rfl)) (hw _ (List.mem_of_getElem? (i := 49) rfl)) (hw _ (List.mem_of_getElem? (i := 50) rfl)) (hw _ (List.mem_of_getElem? (i := 51) rfl)) (by decide) (W := 0) (argsL := [(.ref r100), (.ref b94), (.int (3 : Int32)), (.int (6 : Int32))]) (rest := []) (r := (.int (1 : Int32))) (fun _ _ _ q => q) (rm10a l Z a0 hw [] r100 b94 (3 : Int32) (6 : Int32) h100 n0 z_100 (by decide)) (by decide) (by decide) (by decide) (by decide) e106 (g := (mkF m 298 #[.val (.int p1), .val (.int p2), .val (.int p3), .val (.int p4), .val (.int p5), .val (.int (Int32.ofNat n)), .val (.int (1 : Int32)), .val (.int (1 : Int32)), .val (.int (0 : Int32)), .val (.ref b92), .val (.ref b94), .val (.int (3 : Int32)), .val (.ref r100)] [(.int (6 : Int32)), (.int (3 : Int32)), (.ref b94), (.ref r100)])) rfl (by rw [hml]; rfl) (lenOf pd_0_2 rfl) rfl (by show 2 * 0 + _ ≤ _; exact Nat.le_of_eq rfl) (hb hby at_298)
            refine Goes.step st107 ?_
            show Goes p e below s _ _ _ T107 (mkF m 301 #[.val (.int p1), .val (.int p2), .val (.int p3), .val (.int p4), .val (.int p5), .val (.int (Int32.ofNat n)), .val (.int (1 : Int32)), .val (.int (1 : Int32)), .val (.int (0 : Int32)), .val (.ref b92), .val (.ref b94), .val (.int (3 : Int32)), .val (.ref r100)] [(.int (1 : Int32))])
            refine Goes.step (fun _ k => XS.ifNo X107.here hx rfl (hb hby at_301) rfl ((if0 _ _).trans (feq (by decide : ¬ ((1 : Int32) = (0 : Int32)))).1) k) ?_
            show Goes p e below s _ _ _ T107 (mkF m 304 #[.val (.int p1), .val (.int p2), .val (.int p3), .val (.int p4), .val (.int p5), .val (.int (Int32.ofNat n)), .val (.int (1 : Int32)), .val (.int (1 : Int32)), .val (.int (0 : Int32)), .val (.ref b92), .val (.ref b94), .val (.int (3 : Int32)), .val (.ref r100)] [])
            refine Goes.step (fun _ k => XS.iconst X107.here hx rfl (hb hby at_304) k) ?_
            show Goes p e below s _ _ _ T107 (mkF m 305 #[.val (.int p1), .val (.int p2), .val (.int p3), .val (.int p4), .val (.int p5), .val (.int (Int32.ofNat n)), .val (.int (1 : Int32)), .val (.int (1 : Int32)), .val (.int (0 : Int32)), .val (.ref b92), .val (.ref b94), .val (.int (3 : Int32)), .val (.ref r100)] [(.int (1 : Int32))])
            refine Goes.step (fun _ k => XS.goto X107.here hx rfl (pc0 := 305) (pc' := 309) rfl (hb hby at_305) (by decide) (by decide) k) ?_
            show Goes p e below s _ _ _ T107 (mkF m 309 #[.val (.int p1), .val (.int p2), .val (.int p3), .val (.int p4), .val (.int p5), .val (.int (Int32.ofNat n)), .val (.int (1 : Int32)), .val (.int (1 : Int32)), .val (.int (0 : Int32)), .val (.ref b92), .val (.ref b94), .val (.int (3 : Int32)), .val (.ref r100)] [(.int (1 : Int32))])
            exact Goes.outN X107 hx hlk (t := .boolean) Bd.returns (by simp) (hb hby at_309) ⟨rfl, N_100⟩ (by decide) (by decide)
      · refine Goes.step (fun _ k => XS.ifNo X0.here hx rfl (hb hby at_35) rfl ((if0 _ _).trans (feq hc35).1) k) ?_
        show Goes p e below s _ _ _ s₁ (mkF m 38 #[.val (.int p1), .val (.int p2), .val (.int p3), .val (.int p4), .val (.int p5), .val (.int (Int32.ofNat n)), .val (.int (1 : Int32)), .val (.int (1 : Int32)), .unset, .unset, .unset, .unset, .unset] [])
        refine Goes.step (fun _ k => XS.iconst X0.here hx rfl (hb hby at_38) k) ?_
        show Goes p e below s _ _ _ s₁ (mkF m 39 #[.val (.int p1), .val (.int p2), .val (.int p3), .val (.int p4), .val (.int p5), .val (.int (Int32.ofNat n)), .val (.int (1 : Int32)), .val (.int (1 : Int32)), .unset, .unset, .unset, .unset, .unset] [(.int (1 : Int32))])
        refine Goes.step (fun _ k => XS.goto X0.here hx rfl (pc0 := 39) (pc' := 43) rfl (hb hby at_39) (by decide) (by decide) k) ?_
        show Goes p e below s _ _ _ s₁ (mkF m 43 #[.val (.int p1), .val (.int p2), .val (.int p3), .val (.int p4), .val (.int p5), .val (.int (Int32.ofNat n)), .val (.int (1 : Int32)), .val (.int (1 : Int32)), .unset, .unset, .unset, .unset, .unset] [(.int (1 : Int32))])
        refine Goes.step (fun _ k => XS.istore X0.here hx rfl (hb hby at_43) rfl (l' := #[.val (.int p1), .val (.int p2), .val (.int p3), .val (.int p4), .val (.int p5), .val (.int (Int32.ofNat n)), .val (.int (1 : Int32)), .val (.int (1 : Int32)), .val (.int (1 : Int32)), .unset, .unset, .unset, .unset]) rfl k) ?_
        show Goes p e below s _ _ _ s₁ (mkF m 45 #[.val (.int p1), .val (.int p2), .val (.int p3), .val (.int p4), .val (.int p5), .val (.int (Int32.ofNat n)), .val (.int (1 : Int32)), .val (.int (1 : Int32)), .val (.int (1 : Int32)), .unset, .unset, .unset, .unset] [])
        obtain ⟨T108, h108, X108, e108, E108, A108, D108, -, st108⟩ := newO X0 hx hZ hown (hw _ (List.mem_of_getElem? (i := 0) rfl)) (hw _ (List.mem_of_getElem? (i := 1) rfl)) (hw _ (List.mem_of_getElem? (i := 2) rfl)) e0 (g := (mkF m 45 #[.val (.int p1), .val (.int p2), .val (.int p3), .val (.int p4), .val (.int p5), .val (.int (Int32.ofNat n)), .val (.int (1 : Int32)), .val (.int (1 : Int32)), .val (.int (1 : Int32)), .unset, .unset, .unset, .unset] [])) rfl (hb hby at_45) (by decide) (by decide)
        obtain ⟨b108, g_108⟩ : ∃ z, z = h0.size := ⟨_, rfl⟩
        rw [← g_108] at A108 D108 st108
        refine Goes.step st108 ?_
        have ge_b108 : n0 ≤ b108 := by rw [g_108]; exact Z0
        have sz_b108 : h0.size ≤ b108 := by rw [g_108]; exact K0.1
        have z_108 : n0 ≤ h108.size := Nat.le_trans Z0 E108.1
        have K_108 : Keep h0 h108 [] := K0.ext E108
        have E_b108_108 : Exa Z h108 b108 "com/example/proxysmith/proxysmith/ClassFileWriter$Bytes" := A108
        have F_b108_bytes_108 : Fld Z h108 b108 "com/example/proxysmith/proxysmith/ClassFileWriter$Bytes" "bytes" "[B" .null := D108 (Or.inl (hw _ (List.mem_of_getElem? (i := 11) rfl))) (ty := (.array .byte)) (by decide)
        have F_b108_size_108 : Fld Z h108 b108 "com/example/proxysmith/proxysmith/ClassFileWriter$Bytes" "size" "I" (.int (0 : Int32)) := D108 (Or.inl (hw _ (List.mem_of_getElem? (i := 22) rfl))) (ty := .int) (by decide)
        show Goes p e below s _ _ _ T108 (mkF m 48 #[.val (.int p1), .val (.int p2), .val (.int p3), .val (.int p4), .val (.int p5), .val (.int (Int32.ofNat n)), .val (.int (1 : Int32)), .val (.int (1 : Int32)), .val (.int (1 : Int32)), .unset, .unset, .unset, .unset] [(.ref b108)])
        refine Goes.step (fun _ k => XS.dup X108.here hx rfl (hb hby at_48) rfl rfl k) ?_
        show Goes p e below s _ _ _ T108 (mkF m 49 #[.val (.int p1), .val (.int p2), .val (.int p3), .val (.int p4), .val (.int p5), .val (.int (Int32.ofNat n)), .val (.int (1 : Int32)), .val (.int (1 : Int32)), .val (.int (1 : Int32)), .unset, .unset, .unset, .unset] [(.ref b108), (.ref b108)])
        refine Goes.step (fun _ k => XS.iload X108.here hx rfl (hb hby at_49) rfl k) ?_
        show Goes p e below s _ _ _ T108 (mkF m 51 #[.val (.int p1), .val (.int p2), .val (.int p3), .val (.int p4), .val (.int p5), .val (.int (Int32.ofNat n)), .val (.int (1 : Int32)), .val (.int (1 : Int32)), .val (.int (1 : Int32)), .unset, .unset, .unset, .unset] [(.int (Int32.ofNat n)), (.ref b108), (.ref b108)])
        obtain ⟨v109, T109, h109, L109, X109, e109, Q109, st109⟩ := callXI X108 hx hZ (b := b108) (y := (⟨"com/example/proxysmith/proxysmith/ClassFileWriter$Bytes", "<init>", "(I)V"⟩ : MethodName)) hown rfl (hw _ (List.mem_of_getElem? (i := 3) rfl)) (hw _ (List.mem_of_getElem? (i := 4) rfl)) (hw _ (List.mem_of_getElem? (i := 5) rfl)) (hw _ (List.mem_of_getElem? (i := 2) rfl)) (by decide) (W := 1) (argsL := [(.int (Int32.ofNat n))]) (rest := [(.ref b108)]) (rm1 l Z a0 hw [] b108 n h108 n0 z_108 E_b108_108 F_b108_bytes_108 F_b108_size_108 ge_b108 hn) (by decide) (by decide) (by decide) (by decide) e108 (g := (mkF m 51 #[.val (.int p1), .val (.int p2), .val (.int p3), .val (.int p4), .val (.int p5), .val (.int (Int32.ofNat n)), .val (.int (1 : Int32)), .val (.int (1 : Int32)), .val (.int (1 : Int32)), .unset, .unset, .unset, .unset] [(.int (Int32.ofNat n)), (.ref b108), (.ref b108)])) rfl (by rw [hml]; rfl) (lenOf pd_0_0 rfl) rfl (by show 2 * 0 + _ ≤ _; exact Nat.le_of_eq rfl) (hb hby at_51)
        obtain ⟨b109, rfl, NQ109, KQ109, hE109, hFb109, hFs109, hA109, hab109, hg109, hb109⟩ := Q109
        refine Goes.step st109 ?_
        have E_b108_109 := E_b108_108.keep KQ109
        have z_109 : n0 ≤ h109.size := Nat.le_trans z_108 KQ109.1
        have K_109 : Keep h0 h109 [] := Keep.trans K_108 KQ109 (allS (Or.inr sz_b108) all0)
        have N_109 := Fr.app N0 NQ109
        show Goes p e below s _ _ _ T109 (mkF m 54 #[.val (.int p1), .val (.int p2), .val (.int p3), .val (.int p4), .val (.int p5), .val (.int (Int32.ofNat n)), .val (.int (1 : Int32)), .val (.int (1 : Int32)), .val (.int (1 : Int32)), .unset, .unset, .unset, .unset] [(.ref b108)])
        refine Goes.step (fun _ k => XS.astore X109.here hx rfl (hb hby at_54) rfl rfl (l' := #[.val (.int p1), .val (.int p2), .val (.int p3), .val (.int p4), .val (.int p5), .val (.int (Int32.ofNat n)), .val (.int (1 : Int32)), .val (.int (1 : Int32)), .val (.int (1 : Int32)), .val (.ref b108), .unset, .unset, .unset]) rfl k) ?_
        show Goes p e below s _ _ _ T109 (mkF m 56 #[.val (.int p1), .val (.int p2), .val (.int p3), .val (.int p4), .val (.int p5), .val (.int (Int32.ofNat n)), .val (.int (1 : Int32)), .val (.int (1 : Int32)), .val (.int (1 : Int32)), .val (.ref b108), .unset, .unset, .unset] [])
        refine Goes.step (fun _ k => XS.bipush X109.here hx rfl (hb hby at_56) k) ?_
        show Goes p e below s _ _ _ T109 (mkF m 58 #[.val (.int p1), .val (.int p2), .val (.int p3), .val (.int p4), .val (.int p5), .val (.int (Int32.ofNat n)), .val (.int (1 : Int32)), .val (.int (1 : Int32)), .val (.int (1 : Int32)), .val (.ref b108), .unset, .unset, .unset] [(.int (7 : Int32))])
        obtain ⟨T110, h110, X110, e110, E110, A110, st110⟩ := newI X109 hx hZ (hw _ (List.mem_of_getElem? (i := 9) rfl)) e109 (g := (mkF m 58 #[.val (.int p1), .val (.int p2), .val (.int p3), .val (.int p4), .val (.int p5), .val (.int (Int32.ofNat n)), .val (.int (1 : Int32)), .val (.int (1 : Int32)), .val (.int (1 : Int32)), .val (.ref b108), .unset, .unset, .unset] [(.int (7 : Int32))])) rfl (hb hby at_58) rfl (N := 7) rfl (cap := 7) (by decide) (by decide) (by decide) (by decide) rfl (by decide)
        obtain ⟨b110, g_110⟩ : ∃ z, z = h109.size := ⟨_, rfl⟩
        rw [← g_110] at A110 st110
        refine Goes.step st110 ?_
        have ne_b108_b110 : b108 ≠ b110 := Nat.ne_of_lt (by rw [g_110]; exact hE109.lt)
        have ne_b109_b110 : b109 ≠ b110 := Nat.ne_of_lt (by rw [g_110]; exact hA109.lt)
        have ge_b110 : n0 ≤ b110 := by rw [g_110]; exact z_109
        have sz_b110 : h0.size ≤ b110 := by rw [g_110]; exact K_109.1
        have hE109_110 := hE109.ext E110
        have hFb109_110 := hFb109.ext E110
        have hFs109_110 := hFs109.ext E110
        have hA109_110 := hA109.ext E110
        have z_110 : n0 ≤ h110.size := Nat.le_trans z_109 E110.1
        have K_110 : Keep h0 h110 [] := K_109.ext E110
        have A_b110_110 : Ari Z h110 b110 .byte (7) (fun _ => 0) := A110
        show Goes p e below s _ _ _ T110 (mkF m 60 #[.val (.int p1), .val (.int p2), .val (.int p3), .val (.int p4), .val (.int p5), .val (.int (Int32.ofNat n)), .val (.int (1 : Int32)), .val (.int (1 : Int32)), .val (.int (1 : Int32)), .val (.ref b108), .unset, .unset, .unset] [(.ref b110)])
        refine Goes.step (fun _ k => XS.astore X110.here hx rfl (hb hby at_60) rfl rfl (l' := #[.val (.int p1), .val (.int p2), .val (.int p3), .val (.int p4), .val (.int p5), .val (.int (Int32.ofNat n)), .val (.int (1 : Int32)), .val (.int (1 : Int32)), .val (.int (1 : Int32)), .val (.ref b108), .val (.ref b110), .unset, .unset]) rfl k) ?_
        show Goes p e below s _ _ _ T110 (mkF m 62 #[.val (.int p1), .val (.int p2), .val (.int p3), .val (.int p4), .val (.int p5), .val (.int (Int32.ofNat n)), .val (.int (1 : Int32)), .val (.int (1 : Int32)), .val (.int (1 : Int32)), .val (.ref b108), .val (.ref b110), .unset, .unset] [])
        refine Goes.step (fun _ k => XS.iconst X110.here hx rfl (hb hby at_62) k) ?_
        show Goes p e below s _ _ _ T110 (mkF m 63 #[.val (.int p1), .val (.int p2), .val (.int p3), .val (.int p4), .val (.int p5), .val (.int (Int32.ofNat n)), .val (.int (1 : Int32)), .val (.int (1 : Int32)), .val (.int (1 : Int32)), .val (.ref b108), .val (.ref b110), .unset, .unset] [(.int (0 : Int32))])
        refine Goes.step (fun _ k => XS.istore X110.here hx rfl (hb hby at_63) rfl (l' := #[.val (.int p1), .val (.int p2), .val (.int p3), .val (.int p4), .val (.int p5), .val (.int (Int32.ofNat n)), .val (.int (1 : Int32)), .val (.int (1 : Int32)), .val (.int (1 : Int32)), .val (.ref b108), .val (.ref b110), .val (.int (0 : Int32)), .unset]) rfl k) ?_
        show Goes p e below s _ _ _ T110 (mkF m 65 #[.val (.int p1), .val (.int p2), .val (.int p3), .val (.int p4), .val (.int p5), .val (.int (Int32.ofNat n)), .val (.int (1 : Int32)), .val (.int (1 : Int32)), .val (.int (1 : Int32)), .val (.ref b108), .val (.ref b110), .val (.int (0 : Int32)), .unset] [])
        refine Goes.step (fun _ k => XS.iload X110.here hx rfl (hb hby at_65) rfl k) ?_
        show Goes p e below s _ _ _ T110 (mkF m 67 #[.val (.int p1), .val (.int p2), .val (.int p3), .val (.int p4), .val (.int p5), .val (.int (Int32.ofNat n)), .val (.int (1 : Int32)), .val (.int (1 : Int32)), .val (.int (1 : Int32)), .val (.ref b108), .val (.ref b110), .val (.int (0 : Int32)), .unset] [(.int (1 : Int32))])
        refine Goes.step (fun _ k => XS.ifNo X110.here hx rfl (hb hby at_67) rfl ((if0 _ _).trans (feq (by decide : ¬ ((1 : Int32) = (0 : Int32)))).1) k) ?_
        show Goes p e below s _ _ _ T110 (mkF m 70 #[.val (.int p1), .val (.int p2), .val (.int p3), .val (.int p4), .val (.int p5), .val (.int (Int32.ofNat n)), .val (.int (1 : Int32)), .val (.int (1 : Int32)), .val (.int (1 : Int32)), .val (.ref b108), .val (.ref b110), .val (.int (0 : Int32)), .unset] [])
        refine Goes.step (fun _ k => XS.aload X110.here hx rfl (hb hby at_70) rfl rfl k) ?_
        show Goes p e below s _ _ _ T110 (mkF m 72 #[.val (.int p1), .val (.int p2), .val (.int p3), .val (.int p4), .val (.int p5), .val (.int (Int32.ofNat n)), .val (.int (1 : Int32)), .val (.int (1 : Int32)), .val (.int (1 : Int32)), .val (.ref b108), .val (.ref b110), .val (.int (0 : Int32)), .unset] [(.ref b110)])
        refine Goes.step (fun _ k => XS.iload X110.here hx rfl (hb hby at_72) rfl k) ?_
        show Goes p e below s _ _ _ T110 (mkF m 74 #[.val (.int p1), .val (.int p2), .val (.int p3), .val (.int p4), .val (.int p5), .val (.int (Int32.ofNat n)), .val (.int (1 : Int32)), .val (.int (1 : Int32)), .val (.int (1 : Int32)), .val (.ref b108), .val (.ref b110), .val (.int (0 : Int32)), .unset] [(.int (0 : Int32)), (.ref b110)])
        refine Goes.step (fun _ k => XS.iloadN X110.here hx rfl (hb hby at_74) rfl k) ?_
        show Goes p e below s _ _ _ T110 (mkF m 75 #[.val (.int p1), .val (.int p2), .val (.int p3), .val (.int p4), .val (.int p5), .val (.int (Int32.ofNat n)), .val (.int (1 : Int32)), .val (.int (1 : Int32)), .val (.int (1 : Int32)), .val (.ref b108), .val (.ref b110), .val (.int (0 : Int32)), .unset] [(.int p3), (.int (0 : Int32)), (.ref b110)])
        refine Goes.step (fun _ k => XS.i2b X110.here hx rfl (hb hby at_75) rfl k) ?_
        show Goes p e below s _ _ _ T110 (mkF m 76 #[.val (.int p1), .val (.int p2), .val (.int p3), .val (.int p4), .val (.int p5), .val (.int (Int32.ofNat n)), .val (.int (1 : Int32)), .val (.int (1 : Int32)), .val (.int (1 : Int32)), .val (.ref b108), .val (.ref b110), .val (.int (0 : Int32)), .unset] [(.int (p3.toInt8.toInt32)), (.int (0 : Int32)), (.ref b110)])
        obtain ⟨T111, h111, X111, e111, W111, A111, st111⟩ := stoB X110 hx hZ e110 A_b110_110 (0) rfl (by decide) (g := (mkF m 76 #[.val (.int p1), .val (.int p2), .val (.int p3), .val (.int p4), .val (.int p5), .val (.int (Int32.ofNat n)), .val (.int (1 : Int32)), .val (.int (1 : Int32)), .val (.int (1 : Int32)), .val (.ref b108), .val (.ref b110), .val (.int (0 : Int32)), .unset] [(.int (p3.toInt8.toInt32)), (.int (0 : Int32)), (.ref b110)])) rfl rfl (hb hby at_76)
        refine Goes.step st111 ?_
        have hE109_111 := hE109_110.wr W111
        have hFb109_111 := hFb109_110.other W111 (Or.inl ne_b108_b110)
        have hFs109_111 := hFs109_110.other W111 (Or.inl ne_b108_b110)
        have hA109_111 := hA109_110.other W111 ne_b109_b110
        have z_111 : n0 ≤ h111.size := by rw [W111.size]; exact z_110
        have K_111 : Keep h0 h111 [] := K_110.wr W111 (Or.inr sz_b110)
        have N_111 := Fr.snoc X111 N_109 ge_b110
        have A_b110_111 : Ari Z h111 b110 .byte (7) (updI (fun _ => 0) (0) ((p3.toInt8.toInt32).toInt8.toInt32)) := A111
        show Goes p e below s _ _ _ T111 (mkF m 77 #[.val (.int p1), .val (.int p2), .val (.int p3), .val (.int p4), .val (.int p5), .val (.int (Int32.ofNat n)), .val (.int (1 : Int32)), .val (.int (1 : Int32)), .val (.int (1 : Int32)), .val (.ref b108), .val (.ref b110), .val (.int (0 : Int32)), .unset] [])
        refine Goes.step (fun _ k => XS.iload X111.here hx rfl (hb hby at_77) rfl k) ?_
        show Goes p e below s _ _ _ T111 (mkF m 79 #[.val (.int p1), .val (.int p2), .val (.int p3), .val (.int p4), .val (.int p5), .val (.int (Int32.ofNat n)), .val (.int (1 : Int32)), .val (.int (1 : Int32)), .val (.int (1 : Int32)), .val (.ref b108), .val (.ref b110), .val (.int (0 : Int32)), .unset] [(.int (0 : Int32))])
        refine Goes.step (fun _ k => XS.iconst X111.here hx rfl (hb hby at_79) k) ?_
        show Goes p e below s _ _ _ T111 (mkF m 80 #[.val (.int p1), .val (.int p2), .val (.int p3), .val (.int p4), .val (.int p5), .val (.int (Int32.ofNat n)), .val (.int (1 : Int32)), .val (.int (1 : Int32)), .val (.int (1 : Int32)), .val (.ref b108), .val (.ref b110), .val (.int (0 : Int32)), .unset] [(.int (1 : Int32)), (.int (0 : Int32))])
        refine Goes.step (fun _ k => XS.iadd X111.here hx rfl (hb hby at_80) rfl k) ?_
        show Goes p e below s _ _ _ T111 (mkF m 81 #[.val (.int p1), .val (.int p2), .val (.int p3), .val (.int p4), .val (.int p5), .val (.int (Int32.ofNat n)), .val (.int (1 : Int32)), .val (.int (1 : Int32)), .val (.int (1 : Int32)), .val (.ref b108), .val (.ref b110), .val (.int (0 : Int32)), .unset] [(.int (1 : Int32))])
        refine Goes.step (fun _ k => XS.istore X111.here hx rfl (hb hby at_81) rfl (l' := #[.val (.int p1), .val (.int p2), .val (.int p3), .val (.int p4), .val (.int p5), .val (.int (Int32.ofNat n)), .val (.int (1 : Int32)), .val (.int (1 : Int32)), .val (.int (1 : Int32)), .val (.ref b108), .val (.ref b110), .val (.int (1 : Int32)), .unset]) rfl k) ?_
        show Goes p e below s _ _ _ T111 (mkF m 83 #[.val (.int p1), .val (.int p2), .val (.int p3), .val (.int p4), .val (.int p5), .val (.int (Int32.ofNat n)), .val (.int (1 : Int32)), .val (.int (1 : Int32)), .val (.int (1 : Int32)), .val (.ref b108), .val (.ref b110), .val (.int (1 : Int32)), .unset] [])
        refine Goes.step (fun _ k => XS.aload X111.here hx rfl (hb hby at_83) rfl rfl k) ?_
        show Goes p e below s _ _ _ T111 (mkF m 85 #[.val (.int p1), .val (.int p2), .val (.int p3), .val (.int p4), .val (.int p5), .val (.int (Int32.ofNat n)), .val (.int (1 : Int32)), .val (.int (1 : Int32)), .val (.int (1 : Int32)), .val (.ref b108), .val (.ref b110), .val (.int (1 : Int32)), .unset] [(.ref b108)])
        refine Goes.step (fun _ k => XS.iloadN X111.here hx rfl (hb hby at_85) rfl k) ?_
        show Goes p e below s _ _ _ T111 (mkF m 86 #[.val (.int p1), .val (.int p2), .val (.int p3), .val (.int p4), .val (.int p5), .val (.int (Int32.ofNat n)), .val (.int (1 : Int32)), .val (.int (1 : Int32)), .val (.int (1 : Int32)), .val (.ref b108), .val (.ref b110), .val (.int (1 : Int32)), .unset] [(.int p3), (.ref b108)])
        obtain ⟨v112, T112, h112, L112, X112, e112, Q112, st112⟩ := callXV X111 hx hZ (C := "com/example/proxysmith/proxysmith/ClassFileWriter$Bytes") (b := b108) (y := (⟨"com/example/proxysmith/proxysmith/ClassFileWriter$Bytes", "u1", "(I)V"⟩ : MethodName)) (z := (⟨"com/example/proxysmith/proxysmith/ClassFileWriter$Bytes", "u1", "(I)V"⟩ : MethodName)) hown (hw _ (List.mem_of_getElem? (i := 12) rfl)) (hw _ (List.mem_of_getElem? (i := 13) rfl)) (hw _ (List.mem_of_getElem? (i := 15) rfl)) (hw _ (List.mem_of_getElem? (i := 14) rfl)) (hw _ (List.mem_of_getElem? (i := 16) rfl)) (hw _ (List.mem_of_getElem? (i := 2) rfl)) (notFace_of_selects (args := #[]) (mvT hZ (hw _ (List.mem_of_getElem? (i := 15) rfl)))) (by decide) (W := 0) (argsL := [(.int p3)]) (rest := []) (rm3 l Z a0 hw [] b108 p3 b109 n 0 (fun _ => 0) h111 n0 z_111 hE109_111 hFb109_111 hFs109_111 hA109_111 hab109 ge_b108 hg109 (Nat.zero_le n) (Nat.le_trans hn (by decide)) (by omega)) (by decide) (by decide) (by decide) (by decide) e111 hE109_111 (g := (mkF m 86 #[.val (.int p1), .val (.int p2), .val (.int p3), .val (.int p4), .val (.int p5), .val (.int (Int32.ofNat n)), .val (.int (1 : Int32)), .val (.int (1 : Int32)), .val (.int (1 : Int32)), .val (.ref b108), .val (.ref b110), .val (.int (1 : Int32)), .unset] [(.int p3), (.ref b108)])) rfl (by rw [hml]; rfl) (lenOf pd_0_0 rfl) rfl (by show 2 * 0 + _ ≤ _; exact Nat.le_of_eq rfl) (hb hby at_86)
        obtain ⟨b112, n112, f112, rfl, NQ112, KQ112, hE112, hFb112, hFs112, hA112, hab112, hg112, ho112, hs112, hn112, hf112, hv112⟩ := Q112
        refine Goes.step st112 ?_
        have hE109_112 := hE109_111.keep KQ112
        have A_b110_112 := A_b110_111.keep KQ112 (ninS (Ne.symm ne_b108_b110) (ninS (Ne.symm ne_b109_b110) nin0))
        have z_112 : n0 ≤ h112.size := Nat.le_trans z_111 KQ112.1
        have K_112 : Keep h0 h112 [] := Keep.trans K_111 KQ112 (allS (Or.inr sz_b108) (allS (Or.inr (Nat.le_trans K_108.1 hb109)) all0))
        have N_112 := Fr.app N_111 NQ112
        have ne_b110_b112 : b110 ≠ b112 := ho112.elim (fun q z => (Ne.symm ne_b109_b110) (z.trans q)) (fun q => Nat.ne_of_lt (Nat.lt_of_lt_of_le A_b110_111.lt q))
        have mem_b112 : b112 ∈ [] ∨ h0.size ≤ b112 := ho112.elim (fun q => q ▸ (Or.inr (Nat.le_trans K_108.1 hb109))) (fun q => Or.inr (Nat.le_trans K_111.1 q))
        show Goes p e below s _ _ _ T112 (mkF m 89 #[.val (.int p1), .val (.int p2), .val (.int p3), .val (.int p4), .val (.int p5), .val (.int (Int32.ofNat n)), .val (.int (1 : Int32)), .val (.int (1 : Int32)), .val (.int (1 : Int32)), .val (.ref b108), .val (.ref b110), .val (.int (1 : Int32)), .unset] [])
        refine Goes.step (fun _ k => XS.iload X112.here hx rfl (hb hby at_89) rfl k) ?_
        show Goes p e below s _ _ _ T112 (mkF m 91 #[.val (.int p1), .val (.int p2), .val (.int p3), .val (.int p4), .val (.int p5), .val (.int (Int32.ofNat n)), .val (.int (1 : Int32)), .val (.int (1 : Int32)), .val (.int (1 : Int32)), .val (.ref b108), .val (.ref b110), .val (.int (1 : Int32)), .unset] [(.int (1 : Int32))])
        refine Goes.step (fun _ k => XS.ifNo X112.here hx rfl (hb hby at_91) rfl ((if0 _ _).trans (feq (by decide : ¬ ((1 : Int32) = (0 : Int32)))).1) k) ?_
        show Goes p e below s _ _ _ T112 (mkF m 94 #[.val (.int p1), .val (.int p2), .val (.int p3), .val (.int p4), .val (.int p5), .val (.int (Int32.ofNat n)), .val (.int (1 : Int32)), .val (.int (1 : Int32)), .val (.int (1 : Int32)), .val (.ref b108), .val (.ref b110), .val (.int (1 : Int32)), .unset] [])
        refine Goes.step (fun _ k => XS.aload X112.here hx rfl (hb hby at_94) rfl rfl k) ?_
        show Goes p e below s _ _ _ T112 (mkF m 96 #[.val (.int p1), .val (.int p2), .val (.int p3), .val (.int p4), .val (.int p5), .val (.int (Int32.ofNat n)), .val (.int (1 : Int32)), .val (.int (1 : Int32)), .val (.int (1 : Int32)), .val (.ref b108), .val (.ref b110), .val (.int (1 : Int32)), .unset] [(.ref b110)])
        refine Goes.step (fun _ k => XS.iload X112.here hx rfl (hb hby at_96) rfl k) ?_
        show Goes p e below s _ _ _ T112 (mkF m 98 #[.val (.int p1), .val (.int p2), .val (.int p3), .val (.int p4), .val (.int p5), .val (.int (Int32.ofNat n)), .val (.int (1 : Int32)), .val (.int (1 : Int32)), .val (.int (1 : Int32)), .val (.ref b108), .val (.ref b110), .val (.int (1 : Int32)), .unset] [(.int (1 : Int32)), (.ref b110)])
        refine Goes.step (fun _ k => XS.iloadN X112.here hx rfl (hb hby at_98) rfl k) ?_
        show Goes p e below s _ _ _ T112 (mkF m 99 #[.val (.int p1), .val (.int p2), .val (.int p3), .val (.int p4), .val (.int p5), .val (.int (Int32.ofNat n)), .val (.int (1 : Int32)), .val (.int (1 : Int32)), .val (.int (1 : Int32)), .val (.ref b108), .val (.ref b110), .val (.int (1 : Int32)), .unset] [(.int p4), (.int (1 : Int32)), (.ref b110)])
        refine Goes.step (fun _ k => XS.bipush X112.here hx rfl (hb hby at_99) k) ?_
        show Goes p e below s _ _ _ T112 (mkF m 101 #[.val (.int p1), .val (.int p2), .val (.int p3), .val (.int p4), .val (.int p5), .val (.int (Int32.ofNat n)), .val (.int (1 : Int32)), .val (.int (1 : Int32)), .val (.int (1 : Int32)), .val (.ref b108), .val (.ref b110), .val (.int (1 : Int32)), .unset] [(.int (8 : Int32)), (.int p4), (.int (1 : Int32)), (.ref b110)])
        refine Goes.step (fun _ k => XS.iushr X112.here hx rfl (hb hby at_101) rfl k) ?_
        show Goes p e below s _ _ _ T112 (mkF m 102 #[.val (.int p1), .val (.int p2), .val (.int p3), .val (.int p4), .val (.int p5), .val (.int (Int32.ofNat n)), .val (.int (1 : Int32)), .val (.int (1 : Int32)), .val (.int (1 : Int32)), .val (.ref b108), .val (.ref b110), .val (.int (1 : Int32)), .unset] [(.int ((p4.toUInt32 >>> ((8 : Int32) &&& 31).toUInt32).toInt32)), (.int (1 : Int32)), (.ref b110)])
        refine Goes.step (fun _ k => XS.i2b X112.here hx rfl (hb hby at_102) rfl k) ?_
        show Goes p e below s _ _ _ T112 (mkF m 103 #[.val (.int p1), .val (.int p2), .val (.int p3), .val (.int p4), .val (.int p5), .val (.int (Int32.ofNat n)), .val (.int (1 : Int32)), .val (.int (1 : Int32)), .val (.int (1 : Int32)), .val (.ref b108), .val (.ref b110), .val (.int (1 : Int32)), .unset] [(.int (((p4.toUInt32 >>> ((8 : Int32) &&& 31).toUInt32).toInt32).toInt8.toInt32)), (.int (1 : Int32)), (.ref b110)])
        obtain ⟨T113, h113, X113, e113, W113, A113, st113⟩ := stoB X112 hx hZ e112 A_b110_112 (1) rfl (by decide) (g := (mkF m 103 #[.val (.int p1), .val (.int p2), .val (.int p3), .val (.int p4), .val (.int p5), .val (.int (Int32.ofNat n)), .val (.int (1 : Int32)), .val (.int (1 : Int32)), .val (.int (1 : Int32)), .val (.ref b108), .val (.ref b110), .val (.int (1 : Int32)), .unset] [(.int (((p4.toUInt32 >>> ((8 : Int32) &&& 31).toUInt32).toInt32).toInt8.toInt32)), (.int (1 : Int32)), (.ref b110)])) rfl rfl (hb hby at_103)
        refine Goes.step st113 ?_
        have hE112_113 := hE112.wr W113
        have hFb112_113 := hFb112.other W113 (Or.inl ne_b108_b110)
        have hFs112_113 := hFs112.other W113 (Or.inl ne_b108_b110)
        have hA112_113 := hA112.other W113 (Ne.symm ne_b110_b112)
        have z_113 : n0 ≤ h113.size := by rw [W113.size]; exact z_112
        have K_113 : Keep h0 h113 [] := K_112.wr W113 (Or.inr sz_b110)
        have N_113 := Fr.snoc X113 N_112 ge_b110
        have A_b110_113 : Ari Z h113 b110 .byte (7) (updI (updI (fun _ => 0) (0) ((p3.toInt8.toInt32).toInt8.toInt32)) (1) ((((p4.toUInt32 >>> ((8 : Int32) &&& 31).toUInt32).toInt32).toInt8.toInt32).toInt8.toInt32)) := A113
        show Goes p e below s _ _ _ T113 (mkF m 104 #[.val (.int p1), .val (.int p2), .val (.int p3), .val (.int p4), .val (.int p5), .val (.int (Int32.ofNat n)), .val (.int (1 : Int32)), .val (.int (1 : Int32)), .val (.int (1 : Int32)), .val (.ref b108), .val (.ref b110), .val (.int (1 : Int32)), .unset] [])
        refine Goes.step (fun _ k => XS.aload X113.here hx rfl (hb hby at_104) rfl rfl k) ?_
        show Goes p e below s _ _ _ T113 (mkF m 106 #[.val (.int p1), .val (.int p2), .val (.int p3), .val (.int p4), .val (.int p5), .val (.int (Int32.ofNat n)), .val (.int (1 : Int32)), .val (.int (1 : Int32)), .val (.int (1 : Int32)), .val (.ref b108), .val (.ref b110), .val (.int (1 : Int32)), .unset] [(.ref b110)])
        refine Goes.step (fun _ k => XS.iload X113.here hx rfl (hb hby at_106) rfl k) ?_
        show Goes p e below s _ _ _ T113 (mkF m 108 #[.val (.int p1), .val (.int p2), .val (.int p3), .val (.int p4), .val (.int p5), .val (.int (Int32.ofNat n)), .val (.int (1 : Int32)), .val (.int (1 : Int32)), .val (.int (1 : Int32)), .val (.ref b108), .val (.ref b110), .val (.int (1 : Int32)), .unset] [(.int (1 : Int32)), (.ref b110)])
        refine Goes.step (fun _ k => XS.iconst X113.here hx rfl (hb hby at_108) k) ?_
        show Goes p e below s _ _ _ T113 (mkF m 109 #[.val (.int p1), .val (.int p2), .val (.int p3), .val (.int p4), .val (.int p5), .val (.int (Int32.ofNat n)), .val (.int (1 : Int32)), .val (.int (1 : Int32)), .val (.int (1 : Int32)), .val (.ref b108), .val (.ref b110), .val (.int (1 : Int32)), .unset] [(.int (1 : Int32)), (.int (1 : Int32)), (.ref b110)])
        refine Goes.step (fun _ k => XS.iadd X113.here hx rfl (hb hby at_109) rfl k) ?_
        show Goes p e below s _ _ _ T113 (mkF m 110 #[.val (.int p1), .val (.int p2), .val (.int p3), .val (.int p4), .val (.int p5), .val (.int (Int32.ofNat n)), .val (.int (1 : Int32)), .val (.int (1 : Int32)), .val (.int (1 : Int32)), .val (.ref b108), .val (.ref b110), .val (.int (1 : Int32)), .unset] [(.int (2 : Int32)), (.ref b110)])
        refine Goes.step (fun _ k => XS.iloadN X113.here hx rfl (hb hby at_110) rfl k) ?_
        show Goes p e below s _ _ _ T113 (mkF m 111 #[.val (.int p1), .val (.int p2), .val (.int p3), .val (.int p4), .val (.int p5), .val (.int (Int32.ofNat n)), .val (.int (1 : Int32)), .val (.int (1 : Int32)), .val (.int (1 : Int32)), .val (.ref b108), .val (.ref b110), .val (.int (1 : Int32)), .unset] [(.int p4), (.int (2 : Int32)), (.ref b110)])
        refine Goes.step (fun _ k => XS.i2b X113.here hx rfl (hb hby at_111) rfl k) ?_
        show Goes p e below s _ _ _ T113 (mkF m 112 #[.val (.int p1), .val (.int p2), .val (.int p3), .val (.int p4), .val (.int p5), .val (.int (Int32.ofNat n)), .val (.int (1 : Int32)), .val (.int (1 : Int32)), .val (.int (1 : Int32)), .val (.ref b108), .val (.ref b110), .val (.int (1 : Int32)), .unset] [(.int (p4.toInt8.toInt32)), (.int (2 : Int32)), (.ref b110)])
        obtain ⟨T114, h114, X114, e114, W114, A114, st114⟩ := stoB X113 hx hZ e113 A_b110_113 (2) rfl (by decide) (g := (mkF m 112 #[.val (.int p1), .val (.int p2), .val (.int p3), .val (.int p4), .val (.int p5), .val (.int (Int32.ofNat n)), .val (.int (1 : Int32)), .val (.int (1 : Int32)), .val (.int (1 : Int32)), .val (.ref b108), .val (.ref b110), .val (.int (1 : Int32)), .unset] [(.int (p4.toInt8.toInt32)), (.int (2 : Int32)), (.ref b110)])) rfl rfl (hb hby at_112)
        refine Goes.step st114 ?_
        have hE112_114 := hE112_113.wr W114
        have hFb112_114 := hFb112_113.other W114 (Or.inl ne_b108_b110)
        have hFs112_114 := hFs112_113.other W114 (Or.inl ne_b108_b110)
        have hA112_114 := hA112_113.other W114 (Ne.symm ne_b110_b112)
        have z_114 : n0 ≤ h114.size := by rw [W114.size]; exact z_113
        have K_114 : Keep h0 h114 [] := K_113.wr W114 (Or.inr sz_b110)
        have N_114 := Fr.snoc X114 N_113 ge_b110
        have A_b110_114 : Ari Z h114 b110 .byte (7) (updI (updI (updI (fun _ => 0) (0) ((p3.toInt8.toInt32).toInt8.toInt32)) (1) ((((p4.toUInt32 >>> ((8 : Int32) &&& 31).toUInt32).toInt32).toInt8.toInt32).toInt8.toInt32)) (2) ((p4.toInt8.toInt32).toInt8.toInt32)) := A114
        show Goes p e below s _ _ _ T114 (mkF m 113 #[.val (.int p1), .val (.int p2), .val (.int p3), .val (.int p4), .val (.int p5), .val (.int (Int32.ofNat n)), .val (.int (1 : Int32)), .val (.int (1 : Int32)), .val (.int (1 : Int32)), .val (.ref b108), .val (.ref b110), .val (.int (1 : Int32)), .unset] [])
        refine Goes.step (fun _ k => XS.iload X114.here hx rfl (hb hby at_113) rfl k) ?_
        show Goes p e below s _ _ _ T114 (mkF m 115 #[.val (.int p1), .val (.int p2), .val (.int p3), .val (.int p4), .val (.int p5), .val (.int (Int32.ofNat n)), .val (.int (1 : Int32)), .val (.int (1 : Int32)), .val (.int (1 : Int32)), .val (.ref b108), .val (.ref b110), .val (.int (1 : Int32)), .unset] [(.int (1 : Int32))])
        as_aux_lemma =>
          refine Goes.step (fun _ k => XS.iconst X114.here hx rfl (hb hby at_115) k) ?_
          show Goes p e below s _ _ _ T114 (mkF m 116 #[.val (.int p1), .val (.int p2), .val (.int p3), .val (.int p4), .val (.int p5), .val (.int (Int32.ofNat n)), .val (.int (1 : Int32)), .val (.int (1 : Int32)), .val (.int (1 : Int32)), .val (.ref b108), .val (.ref b110), .val (.int (1 : Int32)), .unset] [(.int (2 : Int32)), (.int (1 : Int32))])
          refine Goes.step (fun _ k => XS.iadd X114.here hx rfl (hb hby at_116) rfl k) ?_
          show Goes p e below s _ _ _ T114 (mkF m 117 #[.val (.int p1), .val (.int p2), .val (.int p3), .val (.int p4), .val (.int p5), .val (.int (Int32.ofNat n)), .val (.int (1 : Int32)), .val (.int (1 : Int32)), .val (.int (1 : Int32)), .val (.ref b108), .val (.ref b110), .val (.int (1 : Int32)), .unset] [(.int (3 : Int32))])
          refine Goes.step (fun _ k => XS.istore X114.here hx rfl (hb hby at_117) rfl (l' := #[.val (.int p1), .val (.int p2), .val (.int p3), .val (.int p4), .val (.int p5), .val (.int (Int32.ofNat n)), .val (.int (1 : Int32)), .val (.int (1 : Int32)), .val (.int (1 : Int32)), .val (.ref b108), .val (.ref b110), .val (.int (3 : Int32)), .unset]) rfl k) ?_
          show Goes p e below s _ _ _ T114 (mkF m 119 #[.val (.int p1), .val (.int p2), .val (.int p3), .val (.int p4), .val (.int p5), .val (.int (Int32.ofNat n)), .val (.int (1 : Int32)), .val (.int (1 : Int32)), .val (.int (1 : Int32)), .val (.ref b108), .val (.ref b110), .val (.int (3 : Int32)), .unset] [])
          refine Goes.step (fun _ k => XS.aload X114.here hx rfl (hb hby at_119) rfl rfl k) ?_
          show Goes p e below s _ _ _ T114 (mkF m 121 #[.val (.int p1), .val (.int p2), .val (.int p3), .val (.int p4), .val (.int p5), .val (.int (Int32.ofNat n)), .val (.int (1 : Int32)), .val (.int (1 : Int32)), .val (.int (1 : Int32)), .val (.ref b108), .val (.ref b110), .val (.int (3 : Int32)), .unset] [(.ref b108)])
          refine Goes.step (fun _ k => XS.iloadN X114.here hx rfl (hb hby at_121) rfl k) ?_
          show Goes p e below s _ _ _ T114 (mkF m 122 #[.val (.int p1), .val (.int p2), .val (.int p3), .val (.int p4), .val (.int p5), .val (.int (Int32.ofNat n)), .val (.int (1 : Int32)), .val (.int (1 : Int32)), .val (.int (1 : Int32)), .val (.ref b108), .val (.ref b110), .val (.int (3 : Int32)), .unset] [(.int p4), (.ref b108)])
          obtain ⟨v115, T115, h115, L115, X115, e115, Q115, st115⟩ := callXV X114 hx hZ (C := "com/example/proxysmith/proxysmith/ClassFileWriter$Bytes") (b := b108) (y := (⟨"com/example/proxysmith/proxysmith/ClassFileWriter$Bytes", "u2", "(I)V"⟩ : MethodName)) (z := (⟨"com/example/proxysmith/proxysmith/ClassFileWriter$Bytes", "u2", "(I)V"⟩ : MethodName)) hown (hw _ (List.mem_of_getElem? (i := 38) rfl)) (hw _ (List.mem_of_getElem? (i := 39) rfl)) (hw _ (List.mem_of_getElem? (i := 41) rfl)) (hw _ (List.mem_of_getElem? (i := 40) rfl)) (hw _ (List.mem_of_getElem? (i := 42) rfl)) (hw _ (List.mem_of_getElem? (i := 2) rfl)) (notFace_of_selects (args := #[]) (mvT hZ (hw _ (List.mem_of_getElem? (i := 41) rfl)))) (by decide) (W := 0) (argsL := [(.int p4)]) (rest := []) (rm8 l Z a0 hw [] b108 p4 b112 n112 (0 + 1) f112 h114 n0 z_114 hE112_114 hFb112_114 hFs112_114 hA112_114 hab112 ge_b108 hg112 hs112 hn112 (by omega)) (by decide) (by decide) (by decide) (by decide) e114 hE112_114 (g := (mkF m 122 #[.val (.int p1), .val (.int p2), .val (.int p3), .val (.int p4), .val (.int p5), .val (.int (Int32.ofNat n)), .val (.int (1 : Int32)), .val (.int (1 : Int32)), .val (.int (1 : Int32)), .val (.ref b108), .val (.ref b110), .val (.int (3 : Int32)), .unset] [(.int p4), (.ref b108)])) rfl (by rw [hml]; rfl) (lenOf pd_0_0 rfl) rfl (by show 2 * 0 + _ ≤ _; exact Nat.le_of_eq rfl) (hb hby at_122)
          obtain ⟨b115, n115, f115, rfl, NQ115, KQ115, hE115, hFb115, hFs115, hA115, hab115, hg115, ho115, hs115, hn115, hf115, hv115, hu115⟩ := Q115
          refine Goes.step st115 ?_
          have hE112_115 := hE112_114.keep KQ115
          have A_b110_115 := A_b110_114.keep KQ115 (ninS (Ne.symm ne_b108_b110) (ninS ne_b110_b112 nin0))
          have z_115 : n0 ≤ h115.size := Nat.le_trans z_114 KQ115.1
          have K_115 : Keep h0 h115 [] := Keep.trans K_114 KQ115 (allS (Or.inr sz_b108) (allS mem_b112 all0))
          have N_115 := Fr.app N_114 NQ115
          have ne_b110_b115 : b110 ≠ b115 := ho115.elim (fun q z => ne_b110_b112 (z.trans q)) (fun q => Nat.ne_of_lt (Nat.lt_of_lt_of_le A_b110_114.lt q))
          have mem_b115 : b115 ∈ [] ∨ h0.size ≤ b115 := ho115.elim (fun q => q ▸ mem_b112) (fun q => Or.inr (Nat.le_trans K_114.1 q))
          show Goes p e below s _ _ _ T115 (mkF m 125 #[.val (.int p1), .val (.int p2), .val (.int p3), .val (.int p4), .val (.int p5), .val (.int (Int32.ofNat n)), .val (.int (1 : Int32)), .val (.int (1 : Int32)), .val (.int (1 : Int32)), .val (.ref b108), .val (.ref b110), .val (.int (3 : Int32)), .unset] [])
          refine Goes.step (fun _ k => XS.iload X115.here hx rfl (hb hby at_125) rfl k) ?_
          show Goes p e below s _ _ _ T115 (mkF m 127 #[.val (.int p1), .val (.int p2), .val (.int p3), .val (.int p4), .val (.int p5), .val (.int (Int32.ofNat n)), .val (.int (1 : Int32)), .val (.int (1 : Int32)), .val (.int (1 : Int32)), .val (.ref b108), .val (.ref b110), .val (.int (3 : Int32)), .unset] [(.int (1 : Int32))])
          refine Goes.step (fun _ k => XS.ifNo X115.here hx rfl (hb hby at_127) rfl ((if0 _ _).trans (feq (by decide : ¬ ((1 : Int32) = (0 : Int32)))).1) k) ?_
          show Goes p e below s _ _ _ T115 (mkF m 130 #[.val (.int p1), .val (.int p2), .val (.int p3), .val (.int p4), .val (.int p5), .val (.int (Int32.ofNat n)), .val (.int (1 : Int32)), .val (.int (1 : Int32)), .val (.int (1 : Int32)), .val (.ref b108), .val (.ref b110), .val (.int (3 : Int32)), .unset] [])
          refine Goes.step (fun _ k => XS.aload X115.here hx rfl (hb hby at_130) rfl rfl k) ?_
          show Goes p e below s _ _ _ T115 (mkF m 132 #[.val (.int p1), .val (.int p2), .val (.int p3), .val (.int p4), .val (.int p5), .val (.int (Int32.ofNat n)), .val (.int (1 : Int32)), .val (.int (1 : Int32)), .val (.int (1 : Int32)), .val (.ref b108), .val (.ref b110), .val (.int (3 : Int32)), .unset] [(.ref b110)])
          refine Goes.step (fun _ k => XS.iload X115.here hx rfl (hb hby at_132) rfl k) ?_
          show Goes p e below s _ _ _ T115 (mkF m 134 #[.val (.int p1), .val (.int p2), .val (.int p3), .val (.int p4), .val (.int p5), .val (.int (Int32.ofNat n)), .val (.int (1 : Int32)), .val (.int (1 : Int32)), .val (.int (1 : Int32)), .val (.ref b108), .val (.ref b110), .val (.int (3 : Int32)), .unset] [(.int (3 : Int32)), (.ref b110)])
          refine Goes.step (fun _ k => XS.iload X115.here hx rfl (hb hby at_134) rfl k) ?_
          show Goes p e below s _ _ _ T115 (mkF m 136 #[.val (.int p1), .val (.int p2), .val (.int p3), .val (.int p4), .val (.int p5), .val (.int (Int32.ofNat n)), .val (.int (1 : Int32)), .val (.int (1 : Int32)), .val (.int (1 : Int32)), .val (.ref b108), .val (.ref b110), .val (.int (3 : Int32)), .unset] [(.int p5), (.int (3 : Int32)), (.ref b110)])
          refine Goes.step (fun _ k => XS.bipush X115.here hx rfl (hb hby at_136) k) ?_
          show Goes p e below s _ _ _ T115 (mkF m 138 #[.val (.int p1), .val (.int p2), .val (.int p3), .val (.int p4), .val (.int p5), .val (.int (Int32.ofNat n)), .val (.int (1 : Int32)), .val (.int (1 : Int32)), .val (.int (1 : Int32)), .val (.ref b108), .val (.ref b110), .val (.int (3 : Int32)), .unset] [(.int (24 : Int32)), (.int p5), (.int (3 : Int32)), (.ref b110)])
          refine Goes.step (fun _ k => XS.iushr X115.here hx rfl (hb hby at_138) rfl k) ?_
          show Goes p e below s _ _ _ T115 (mkF m 139 #[.val (.int p1), .val (.int p2), .val (.int p3), .val (.int p4), .val (.int p5), .val (.int (Int32.ofNat n)), .val (.int (1 : Int32)), .val (.int (1 : Int32)), .val (.int (1 : Int32)), .val (.ref b108), .val (.ref b110), .val (.int (3 : Int32)), .unset] [(.int ((p5.toUInt32 >>> ((24 : Int32) &&& 31).toUInt32).toInt32)), (.int (3 : Int32)), (.ref b110)])
          refine Goes.step (fun _ k => XS.i2b X115.here hx rfl (hb hby at_139) rfl k) ?_
          show Goes p e below s _ _ _ T115 (mkF m 140 #[.val (.int p1), .val (.int p2), .val (.int p3), .val (.int p4), .val (.int p5), .val (.int (Int32.ofNat n)), .val (.int (1 : Int32)), .val (.int (1 : Int32)), .val (.int (1 : Int32)), .val (.ref b108), .val (.ref b110), .val (.int (3 : Int32)), .unset] [(.int (((p5.toUInt32 >>> ((24 : Int32) &&& 31).toUInt32).toInt32).toInt8.toInt32)), (.int (3 : Int32)), (.ref b110)])
          obtain ⟨T116, h116, X116, e116, W116, A116, st116⟩ := stoB X115 hx hZ e115 A_b110_115 (3) rfl (by decide) (g := (mkF m 140 #[.val (.int p1), .val (.int p2), .val (.int p3), .val (.int p4), .val (.int p5), .val (.int (Int32.ofNat n)), .val (.int (1 : Int32)), .val (.int (1 : Int32)), .val (.int (1 : Int32)), .val (.ref b108), .val (.ref b110), .val (.int (3 : Int32)), .unset] [(.int (((p5.toUInt32 >>> ((24 : Int32) &&& 31).toUInt32).toInt32).toInt8.toInt32)), (.int (3 : Int32)), (.ref b110)])) rfl rfl (hb hby at_140)
          refine Goes.step st116 ?_
          have hE115_116 := hE115.wr W116
          have hFb115_116 := hFb115.other W116 (Or.inl ne_b108_b110)
          have hFs115_116 := hFs115.other W116 (Or.inl ne_b108_b110)
          have hA115_116 := hA115.other W116 (Ne.symm ne_b110_b115)
          have z_116 : n0 ≤ h116.size := by rw [W116.size]; exact z_115
          have K_116 : Keep h0 h116 [] := K_115.wr W116 (Or.inr sz_b110)
          have N_116 := Fr.snoc X116 N_115 ge_b110
          have A_b110_116 : Ari Z h116 b110 .byte (7) (updI (updI (updI (updI (fun _ => 0) (0) ((p3.toInt8.toInt32).toInt8.toInt32)) (1) ((((p4.toUInt32 >>> ((8 : Int32) &&& 31).toUInt32).toInt32).toInt8.toInt32).toInt8.toInt32)) (2) ((p4.toInt8.toInt32).toInt8.toInt32)) (3) ((((p5.toUInt32 >>> ((24 : Int32) &&& 31).toUInt32).toInt32).toInt8.toInt32).toInt8.toInt32)) := A116
          show Goes p e below s _ _ _ T116 (mkF m 141 #[.val (.int p1), .val (.int p2), .val (.int p3), .val (.int p4), .val (.int p5), .val (.int (Int32.ofNat n)), .val (.int (1 : Int32)), .val (.int (1 : Int32)), .val (.int (1 : Int32)), .val (.ref b108), .val (.ref b110), .val (.int (3 : Int32)), .unset] [])
          refine Goes.step (fun _ k => XS.aload X116.here hx rfl (hb hby at_141) rfl rfl k) ?_
          show Goes p e below s _ _ _ T116 (mkF m 143 #[.val (.int p1), .val (.int p2), .val (.int p3), .val (.int p4), .val (.int p5), .val (.int (Int32.ofNat n)), .val (.int (1 : Int32)), .val (.int (1 : Int32)), .val (.int (1 : Int32)), .val (.ref b108), .val (.ref b110), .val (.int (3 : Int32)), .unset] [(.ref b110)])
          refine Goes.step (fun _ k => XS.iload X116.here hx rfl (hb hby at_143) rfl k) ?_
          show Goes p e below s _ _ _ T116 (mkF m 145 #[.val (.int p1), .val (.int p2), .val (.int p3), .val (.int p4), .val (.int p5), .val (.int (Int32.ofNat n)), .val (.int (1 : Int32)), .val (.int (1 : Int32)), .val (.int (1 : Int32)), .val (.ref b108), .val (.ref b110), .val (.int (3 : Int32)), .unset] [(.int (3 : Int32)), (.ref b110)])
          refine Goes.step (fun _ k => XS.iconst X116.here hx rfl (hb hby at_145) k) ?_
          show Goes p e below s _ _ _ T116 (mkF m 146 #[.val (.int p1), .val (.int p2), .val (.int p3), .val (.int p4), .val (.int p5), .val (.int (Int32.ofNat n)), .val (.int (1 : Int32)), .val (.int (1 : Int32)), .val (.int (1 : Int32)), .val (.ref b108), .val (.ref b110), .val (.int (3 : Int32)), .unset] [(.int (1 : Int32)), (.int (3 : Int32)), (.ref b110)])
          refine Goes.step (fun _ k => XS.iadd X116.here hx rfl (hb hby at_146) rfl k) ?_
          show Goes p e below s _ _ _ T116 (mkF m 147 #[.val (.int p1), .val (.int p2), .val (.int p3), .val (.int p4), .val (.int p5), .val (.int (Int32.ofNat n)), .val (.int (1 : Int32)), .val (.int (1 : Int32)), .val (.int (1 : Int32)), .val (.ref b108), .val (.ref b110), .val (.int (3 : Int32)), .unset] [(.int (4 : Int32)), (.ref b110)])
          refine Goes.step (fun _ k => XS.iload X116.here hx rfl (hb hby at_147) rfl k) ?_
          show Goes p e below s _ _ _ T116 (mkF m 149 #[.val (.int p1), .val (.int p2), .val (.int p3), .val (.int p4), .val (.int p5), .val (.int (Int32.ofNat n)), .val (.int (1 : Int32)), .val (.int (1 : Int32)), .val (.int (1 : Int32)), .val (.ref b108), .val (.ref b110), .val (.int (3 : Int32)), .unset] [(.int p5), (.int (4 : Int32)), (.ref b110)])
          refine Goes.step (fun _ k => XS.bipush X116.here hx rfl (hb hby at_149) k) ?_
          show Goes p e below s _ _ _ T116 (mkF m 151 #[.val (.int p1), .val (.int p2), .val (.int p3), .val (.int p4), .val (.int p5), .val (.int (Int32.ofNat n)), .val (.int (1 : Int32)), .val (.int (1 : Int32)), .val (.int (1 : Int32)), .val (.ref b108), .val (.ref b110), .val (.int (3 : Int32)), .unset] [(.int (16 : Int32)), (.int p5), (.int (4 : Int32)), (.ref b110)])
          refine Goes.step (fun _ k => XS.iushr X116.here hx rfl (hb hby at_151) rfl k) ?_
          show Goes p e below s _ _ _ T116 (mkF m 152 #[.val (.int p1), .val (.int p2), .val (.int p3), .val (.int p4), .val (.int p5), .val (.int (Int32.ofNat n)), .val (.int (1 : Int32)), .val (.int (1 : Int32)), .val (.int (1 : Int32)), .val (.ref b108), .val (.ref b110), .val (.int (3 : Int32)), .unset] [(.int ((p5.toUInt32 >>> ((16 : Int32) &&& 31).toUInt32).toInt32)), (.int (4 : Int32)), (.ref b110)])
          refine Goes.step (fun _ k => XS.i2b X116.here hx rfl (hb hby at_152) rfl k) ?_
          show Goes p e below s _ _ _ T116 (mkF m 153 #[.val (.int p1), .val (.int p2), .val (.int p3), .val (.int p4), .val (.int p5), .val (.int (Int32.ofNat n)), .val (.int (1 : Int32)), .val (.int (1 : Int32)), .val (.int (1 : Int32)), .val (.ref b108), .val (.ref b110), .val (.int (3 : Int32)), .unset] [(.int (((p5.toUInt32 >>> ((16 : Int32) &&& 31).toUInt32).toInt32).toInt8.toInt32)), (.int (4 : Int32)), (.ref b110)])
          obtain ⟨T117, h117, X117, e117, W117, A117, st117⟩ := stoB X116 hx hZ e116 A_b110_116 (4) rfl (by decide) (g := (mkF m 153 #[.val (.int p1), .val (.int p2), .val (.int p3), .val (.int p4), .val (.int p5), .val (.int (Int32.ofNat n)), .val (.int (1 : Int32)), .val (.int (1 : Int32)), .val (.int (1 : Int32)), .val (.ref b108), .val (.ref b110), .val (.int (3 : Int32)), .unset] [(.int (((p5.toUInt32 >>> ((16 : Int32) &&& 31).toUInt32).toInt32).toInt8.toInt32)), (.int (4 : Int32)), (.ref b110)])) rfl rfl (hb hby at_153)
          refine Goes.step st117 ?_
          have hE115_117 := hE115_116.wr W117
          have hFb115_117 := hFb115_116.other W117 (Or.inl ne_b108_b110)
          have hFs115_117 := hFs115_116.other W117 (Or.inl ne_b108_b110)
          have hA115_117 := hA115_116.other W117 (Ne.symm ne_b110_b115)
          have z_117 : n0 ≤ h117.size := by rw [W117.size]; exact z_116
          have K_117 : Keep h0 h117 [] := K_116.wr W117 (Or.inr sz_b110)
          have N_117 := Fr.snoc X117 N_116 ge_b110
          have A_b110_117 : Ari Z h117 b110 .byte (7) (updI (updI (updI (updI (updI (fun _ => 0) (0) ((p3.toInt8.toInt32).toInt8.toInt32)) (1) ((((p4.toUInt32 >>> ((8 : Int32) &&& 31).toUInt32).toInt32).toInt8.toInt32).toInt8.toInt32)) (2) ((p4.toInt8.toInt32).toInt8.toInt32)) (3) ((((p5.toUInt32 >>> ((24 : Int32) &&& 31).toUInt32).toInt32).toInt8.toInt32).toInt8.toInt32)) (4) ((((p5.toUInt32 >>> ((16 : Int32) &&& 31).toUInt32).toInt32).toInt8.toInt32).toInt8.toInt32)) := A117
          show Goes p e below s _ _ _ T117 (mkF m 154 #[.val (.int p1), .val (.int p2), .val (.int p3), .val (.int p4), .val (.int p5), .val (.int (Int32.ofNat n)), .val (.int (1 : Int32)), .val (.int (1 : Int32)), .val (.int (1 : Int32)), .val (.ref b108), .val (.ref b110), .val (.int (3 : Int32)), .unset] [])
          refine Goes.step (fun _ k => XS.aload X117.here hx rfl (hb hby at_154) rfl rfl k) ?_
          show Goes p e below s _ _ _ T117 (mkF m 156 #[.val (.int p1), .val (.int p2), .val (.int p3), .val (.int p4), .val (.int p5), .val (.int (Int32.ofNat n)), .val (.int (1 : Int32)), .val (.int (1 : Int32)), .val (.int (1 : Int32)), .val (.ref b108), .val (.ref b110), .val (.int (3 : Int32)), .unset] [(.ref b110)])
          refine Goes.step (fun _ k => XS.iload X117.here hx rfl (hb hby at_156) rfl k) ?_
          show Goes p e below s _ _ _ T117 (mkF m 158 #[.val (.int p1), .val (.int p2), .val (.int p3), .val (.int p4), .val (.int p5), .val (.int (Int32.ofNat n)), .val (.int (1 : Int32)), .val (.int (1 : Int32)), .val (.int (1 : Int32)), .val (.ref b108), .val (.ref b110), .val (.int (3 : Int32)), .unset] [(.int (3 : Int32)), (.ref b110)])
          refine Goes.step (fun _ k => XS.iconst X117.here hx rfl (hb hby at_158) k) ?_
          show Goes p e below s _ _ _ T117 (mkF m 159 #[.val (.int p1), .val (.int p2), .val (.int p3), .val (.int p4), .val (.int p5), .val (.int (Int32.ofNat n)), .val (.int (1 : Int32)), .val (.int (1 : Int32)), .val (.int (1 : Int32)), .val (.ref b108), .val (.ref b110), .val (.int (3 : Int32)), .unset] [(.int (2 : Int32)), (.int (3 : Int32)), (.ref b110)])
          refine Goes.step (fun _ k => XS.iadd X117.here hx rfl (hb hby at_159) rfl k) ?_
          show Goes p e below s _ _ _ T117 (mkF m 160 #[.val (.int p1), .val (.int p2), .val (.int p3), .val (.int p4), .val (.int p5), .val (.int (Int32.ofNat n)), .val (.int (1 : Int32)), .val (.int (1 : Int32)), .val (.int (1 : Int32)), .val (.ref b108), .val (.ref b110), .val (.int (3 : Int32)), .unset] [(.int (5 : Int32)), (.ref b110)])
          refine Goes.step (fun _ k => XS.iload X117.here hx rfl (hb hby at_160) rfl k) ?_
          show Goes p e below s _ _ _ T117 (mkF m 162 #[.val (.int p1), .val (.int p2), .val (.int p3), .val (.int p4), .val (.int p5), .val (.int (Int32.ofNat n)), .val (.int (1 : Int32)), .val (.int (1 : Int32)), .val (.int (1 : Int32)), .val (.ref b108), .val (.ref b110), .val (.int (3 : Int32)), .unset] [(.int p5), (.int (5 : Int32)), (.ref b110)])
          refine Goes.step (fun _ k => XS.bipush X117.here hx rfl (hb hby at_162) k) ?_
          show Goes p e below s _ _ _ T117 (mkF m 164 #[.val (.int p1), .val (.int p2), .val (.int p3), .val (.int p4), .val (.int p5), .val (.int (Int32.ofNat n)), .val (.int (1 : Int32)), .val (.int (1 : Int32)), .val (.int (1 : Int32)), .val (.ref b108), .val (.ref b110), .val (.int (3 : Int32)), .unset] [(.int (8 : Int32)), (.int p5), (.int (5 : Int32)), (.ref b110)])
          refine Goes.step (fun _ k => XS.iushr X117.here hx rfl (hb hby at_164) rfl k) ?_
          show Goes p e below s _ _ _ T117 (mkF m 165 #[.val (.int p1), .val (.int p2), .val (.int p3), .val (.int p4), .val (.int p5), .val (.int (Int32.ofNat n)), .val (.int (1 : Int32)), .val (.int (1 : Int32)), .val (.int (1 : Int32)), .val (.ref b108), .val (.ref b110), .val (.int (3 : Int32)), .unset] [(.int ((p5.toUInt32 >>> ((8 : Int32) &&& 31).toUInt32).toInt32)), (.int (5 : Int32)), (.ref b110)])
          refine Goes.step (fun _ k => XS.i2b X117.here hx rfl (hb hby at_165) rfl k) ?_
          show Goes p e below s _ _ _ T117 (mkF m 166 #[.val (.int p1), .val (.int p2), .val (.int p3), .val (.int p4), .val (.int p5), .val (.int (Int32.ofNat n)), .val (.int (1 : Int32)), .val (.int (1 : Int32)), .val (.int (1 : Int32)), .val (.ref b108), .val (.ref b110), .val (.int (3 : Int32)), .unset] [(.int (((p5.toUInt32 >>> ((8 : Int32) &&& 31).toUInt32).toInt32).toInt8.toInt32)), (.int (5 : Int32)), (.ref b110)])
          obtain ⟨T118, h118, X118, e118, W118, A118, st118⟩ := stoB X117 hx hZ e117 A_b110_117 (5) rfl (by decide) (g := (mkF m 166 #[.val (.int p1), .val (.int p2), .val (.int p3), .val (.int p4), .val (.int p5), .val (.int (Int32.ofNat n)), .val (.int (1 : Int32)), .val (.int (1 : Int32)), .val (.int (1 : Int32)), .val (.ref b108), .val (.ref b110), .val (.int (3 : Int32)), .unset] [(.int (((p5.toUInt32 >>> ((8 : Int32) &&& 31).toUInt32).toInt32).toInt8.toInt32)), (.int (5 : Int32)), (.ref b110)])) rfl rfl (hb hby at_166)
          refine Goes.step st118 ?_
          have hE115_118 := hE115_117.wr W118
          have hFb115_118 := hFb115_117.other W118 (Or.inl ne_b108_b110)
          have hFs115_118 := hFs115_117.other W118 (Or.inl ne_b108_b110)
          have hA115_118 := hA115_117.other W118 (Ne.symm ne_b110_b115)
          have z_118 : n0 ≤ h118.size := by rw [W118.size]; exact z_117
          have K_118 : Keep h0 h118 [] := K_117.wr W118 (Or.inr sz_b110)
          have N_118 := Fr.snoc X118 N_117 ge_b110
          have A_b110_118 : Ari Z h118 b110 .byte (7) (updI (updI (updI (updI (updI (updI (fun _ => 0) (0) ((p3.toInt8.toInt32).toInt8.toInt32)) (1) ((((p4.toUInt32 >>> ((8 : Int32) &&& 31).toUInt32).toInt32).toInt8.toInt32).toInt8.toInt32)) (2) ((p4.toInt8.toInt32).toInt8.toInt32)) (3) ((((p5.toUInt32 >>> ((24 : Int32) &&& 31).toUInt32).toInt32).toInt8.toInt32).toInt8.toInt32)) (4) ((((p5.toUInt32 >>> ((16 : Int32) &&& 31).toUInt32).toInt32).toInt8.toInt32).toInt8.toInt32)) (5) ((((p5.toUInt32 >>> ((8 : Int32) &&& 31).toUInt32).toInt32).toInt8.toInt32).toInt8.toInt32)) := A118
          show Goes p e below s _ _ _ T118 (mkF m 167 #[.val (.int p1), .val (.int p2), .val (.int p3), .val (.int p4), .val (.int p5), .val (.int (Int32.ofNat n)), .val (.int (1 : Int32)), .val (.int (1 : Int32)), .val (.int (1 : Int32)), .val (.ref b108), .val (.ref b110), .val (.int (3 : Int32)), .unset] [])
          refine Goes.step (fun _ k => XS.aload X118.here hx rfl (hb hby at_167) rfl rfl k) ?_
          show Goes p e below s _ _ _ T118 (mkF m 169 #[.val (.int p1), .val (.int p2), .val (.int p3), .val (.int p4), .val (.int p5), .val (.int (Int32.ofNat n)), .val (.int (1 : Int32)), .val (.int (1 : Int32)), .val (.int (1 : Int32)), .val (.ref b108), .val (.ref b110), .val (.int (3 : Int32)), .unset] [(.ref b110)])
          refine Goes.step (fun _ k => XS.iload X118.here hx rfl (hb hby at_169) rfl k) ?_
          show Goes p e below s _ _ _ T118 (mkF m 171 #[.val (.int p1), .val (.int p2), .val (.int p3), .val (.int p4), .val (.int p5), .val (.int (Int32.ofNat n)), .val (.int (1 : Int32)), .val (.int (1 : Int32)), .val (.int (1 : Int32)), .val (.ref b108), .val (.ref b110), .val (.int (3 : Int32)), .unset] [(.int (3 : Int32)), (.ref b110)])
          refine Goes.step (fun _ k => XS.iconst X118.here hx rfl (hb hby at_171) k) ?_
          show Goes p e below s _ _ _ T118 (mkF m 172 #[.val (.int p1), .val (.int p2), .val (.int p3), .val (.int p4), .val (.int p5), .val (.int (Int32.ofNat n)), .val (.int (1 : Int32)), .val (.int (1 : Int32)), .val (.int (1 : Int32)), .val (.ref b108), .val (.ref b110), .val (.int (3 : Int32)), .unset] [(.int (3 : Int32)), (.int (3 : Int32)), (.ref b110)])
          refine Goes.step (fun _ k => XS.iadd X118.here hx rfl (hb hby at_172) rfl k) ?_
          show Goes p e below s _ _ _ T118 (mkF m 173 #[.val (.int p1), .val (.int p2), .val (.int p3), .val (.int p4), .val (.int p5), .val (.int (Int32.ofNat n)), .val (.int (1 : Int32)), .val (.int (1 : Int32)), .val (.int (1 : Int32)), .val (.ref b108), .val (.ref b110), .val (.int (3 : Int32)), .unset] [(.int (6 : Int32)), (.ref b110)])
          refine Goes.step (fun _ k => XS.iload X118.here hx rfl (hb hby at_173) rfl k) ?_
          show Goes p e below s _ _ _ T118 (mkF m 175 #[.val (.int p1), .val (.int p2), .val (.int p3), .val (.int p4), .val (.int p5), .val (.int (Int32.ofNat n)), .val (.int (1 : Int32)), .val (.int (1 : Int32)), .val (.int (1 : Int32)), .val (.ref b108), .val (.ref b110), .val (.int (3 : Int32)), .unset] [(.int p5), (.int (6 : Int32)), (.ref b110)])
          refine Goes.step (fun _ k => XS.i2b X118.here hx rfl (hb hby at_175) rfl k) ?_
          show Goes p e below s _ _ _ T118 (mkF m 176 #[.val (.int p1), .val (.int p2), .val (.int p3), .val (.int p4), .val (.int p5), .val (.int (Int32.ofNat n)), .val (.int (1 : Int32)), .val (.int (1 : Int32)), .val (.int (1 : Int32)), .val (.ref b108), .val (.ref b110), .val (.int (3 : Int32)), .unset] [(.int (p5.toInt8.toInt32)), (.int (6 : Int32)), (.ref b110)])
          obtain ⟨T119, h119, X119, e119, W119, A119, st119⟩ := stoB X118 hx hZ e118 A_b110_118 (6) rfl (by decide) (g := (mkF m 176 #[.val (.int p1), .val (.int p2), .val (.int p3), .val (.int p4), .val (.int p5), .val (.int (Int32.ofNat n)), .val (.int (1 : Int32)), .val (.int (1 : Int32)), .val (.int (1 : Int32)), .val (.ref b108), .val (.ref b110), .val (.int (3 : Int32)), .unset] [(.int (p5.toInt8.toInt32)), (.int (6 : Int32)), (.ref b110)])) rfl rfl (hb hby at_176)
          refine Goes.step st119 ?_
          have hE115_119 := hE115_118.wr W119
          have hFb115_119 := hFb115_118.other W119 (Or.inl ne_b108_b110)
          have hFs115_119 := hFs115_118.other W119 (Or.inl ne_b108_b110)
          have hA115_119 := hA115_118.other W119 (Ne.symm ne_b110_b115)
          have z_119 : n0 ≤ h119.size := by rw [W119.size]; exact z_118
          have K_119 : Keep h0 h119 [] := K_118.wr W119 (Or.inr sz_b110)
          have N_119 := Fr.snoc X119 N_118 ge_b110
          have A_b110_119 : Ari Z h119 b110 .byte (7) (updI (updI (updI (updI (updI (updI (updI (fun _ => 0) (0) ((p3.toInt8.toInt32).toInt8.toInt32)) (1) ((((p4.toUInt32 >>> ((8 : Int32) &&& 31).toUInt32).toInt32).toInt8.toInt32).toInt8.toInt32)) (2) ((p4.toInt8.toInt32).toInt8.toInt32)) (3) ((((p5.toUInt32 >>> ((24 : Int32) &&& 31).toUInt32).toInt32).toInt8.toInt32).toInt8.toInt32)) (4) ((((p5.toUInt32 >>> ((16 : Int32) &&& 31).toUInt32).toInt32).toInt8.toInt32).toInt8.toInt32)) (5) ((((p5.toUInt32 >>> ((8 : Int32) &&& 31).toUInt32).toInt32).toInt8.toInt32).toInt8.toInt32)) (6) ((p5.toInt8.toInt32).toInt8.toInt32)) := A119
          show Goes p e below s _ _ _ T119 (mkF m 177 #[.val (.int p1), .val (.int p2), .val (.int p3), .val (.int p4), .val (.int p5), .val (.int (Int32.ofNat n)), .val (.int (1 : Int32)), .val (.int (1 : Int32)), .val (.int (1 : Int32)), .val (.ref b108), .val (.ref b110), .val (.int (3 : Int32)), .unset] [])
          refine Goes.step (fun _ k => XS.iload X119.here hx rfl (hb hby at_177) rfl k) ?_
          show Goes p e below s _ _ _ T119 (mkF m 179 #[.val (.int p1), .val (.int p2), .val (.int p3), .val (.int p4), .val (.int p5), .val (.int (Int32.ofNat n)), .val (.int (1 : Int32)), .val (.int (1 : Int32)), .val (.int (1 : Int32)), .val (.ref b108), .val (.ref b110), .val (.int (3 : Int32)), .unset] [(.int (3 : Int32))])
          refine Goes.step (fun _ k => XS.iconst X119.here hx rfl (hb hby at_179) k) ?_
          show Goes p e below s _ _ _ T119 (mkF m 180 #[.val (.int p1), .val (.int p2), .val (.int p3), .val (.int p4), .val (.int p5), .val (.int (Int32.ofNat n)), .val (.int (1 : Int32)), .val (.int (1 : Int32)), .val (.int (1 : Int32)), .val (.ref b108), .val (.ref b110), .val (.int (3 : Int32)), .unset] [(.int (4 : Int32)), (.int (3 : Int32))])
          refine Goes.step (fun _ k => XS.iadd X119.here hx rfl (hb hby at_180) rfl k) ?_
          show Goes p e below s _ _ _ T119 (mkF m 181 #[.val (.int p1), .val (.int p2), .val (.int p3), .val (.int p4), .val (.int p5), .val (.int (Int32.ofNat n)), .val (.int (1 : Int32)), .val (.int (1 : Int32)), .val (.int (1 : Int32)), .val (.ref b108), .val (.ref b110), .val (.int (3 : Int32)), .unset] [(.int (7 : Int32))])
          refine Goes.step (fun _ k => XS.istore X119.here hx rfl (hb hby at_181) rfl (l' := #[.val (.int p1), .val (.int p2), .val (.int p3), .val (.int p4), .val (.int p5), .val (.int (Int32.ofNat n)), .val (.int (1 : Int32)), .val (.int (1 : Int32)), .val (.int (1 : Int32)), .val (.ref b108), .val (.ref b110), .val (.int (7 : Int32)), .unset]) rfl k) ?_
          show Goes p e below s _ _ _ T119 (mkF m 183 #[.val (.int p1), .val (.int p2), .val (.int p3), .val (.int p4), .val (.int p5), .val (.int (Int32.ofNat n)), .val (.int (1 : Int32)), .val (.int (1 : Int32)), .val (.int (1 : Int32)), .val (.ref b108), .val (.ref b110), .val (.int (7 : Int32)), .unset] [])
          refine Goes.step (fun _ k => XS.aload X119.here hx rfl (hb hby at_183) rfl rfl k) ?_
          show Goes p e below s _ _ _ T119 (mkF m 185 #[.val (.int p1), .val (.int p2), .val (.int p3), .val (.int p4), .val (.int p5), .val (.int (Int32.ofNat n)), .val (.int (1 : Int32)), .val (.int (1 : Int32)), .val (.int (1 : Int32)), .val (.ref b108), .val (.ref b110), .val (.int (7 : Int32)), .unset] [(.ref b108)])
          as_aux_lemma =>
            refine Goes.step (fun _ k => XS.iload X119.here hx rfl (hb hby at_185) rfl k) ?_
            show Goes p e below s _ _ _ T119 (mkF m 187 #[.val (.int p1), .val (.int p2), .val (.int p3), .val (.int p4), .val (.int p5), .val (.int (Int32.ofNat n)), .val (.int (1 : Int32)), .val (.int (1 : Int32)), .val (.int (1 : Int32)), .val (.ref b108), .val (.ref b110), .val (.int (7 : Int32)), .unset] [(.int p5), (.ref b108)])
            obtain ⟨v120, T120, h120, L120, X120, e120, Q120, st120⟩ := callXV X119 hx hZ (C := "com/example/proxysmith/proxysmith/ClassFileWriter$Bytes") (b := b108) (y := (⟨"com/example/proxysmith/proxysmith/ClassFileWriter$Bytes", "u4", "(I)V"⟩ : MethodName)) (z := (⟨"com/example/proxysmith/proxysmith/ClassFileWriter$Bytes", "u4", "(I)V"⟩ : MethodName)) hown (hw _ (List.mem_of_getElem? (i := 52) rfl)) (hw _ (List.mem_of_getElem? (i := 53) rfl)) (hw _ (List.mem_of_getElem? (i := 55) rfl)) (hw _ (List.mem_of_getElem? (i := 54) rfl)) (hw _ (List.mem_of_getElem? (i := 56) rfl)) (hw _ (List.mem_of_getElem? (i := 2) rfl)) (notFace_of_selects (args := #[]) (mvT hZ (hw _ (List.mem_of_getElem? (i := 55) rfl)))) (by decide) (W := 0) (argsL := [(.int p5)]) (rest := []) (rm11 l Z a0 hw [] b108 p5 b115 n115 (0 + 1 + 2) f115 h119 n0 z_119 hE115_119 hFb115_119 hFs115_119 hA115_119 hab115 ge_b108 hg115 hs115 hn115 (by omega)) (by decide) (by decide) (by decide) (by decide) e119 hE115_119 (g := (mkF m 187 #[.val (.int p1), .val (.int p2), .val (.int p3), .val (.int p4), .val (.int p5), .val (.int (Int32.ofNat n)), .val (.int (1 : Int32)), .val (.int (1 : Int32)), .val (.int (1 : Int32)), .val (.ref b108), .val (.ref b110), .val (.int (7 : Int32)), .unset] [(.int p5), (.ref b108)])) rfl (by rw [hml]; rfl) (lenOf pd_0_0 rfl) rfl (by show 2 * 0 + _ ≤ _; exact Nat.le_of_eq rfl) (hb hby at_187)
            obtain ⟨b120, n120, f120, rfl, NQ120, KQ120, hE120, hFb120, hFs120, hA120, hab120, hg120, ho120, hs120, hn120, hf120, hv120, hu120, hx120, hy120⟩ := Q120
            refine Goes.step st120 ?_
            have hE115_120 := hE115_119.keep KQ120
            have A_b110_120 := A_b110_119.keep KQ120 (ninS (Ne.symm ne_b108_b110) (ninS ne_b110_b115 nin0))
            have z_120 : n0 ≤ h120.size := Nat.le_trans z_119 KQ120.1
            have K_120 : Keep h0 h120 [] := Keep.trans K_119 KQ120 (allS (Or.inr sz_b108) (allS mem_b115 all0))
            have N_120 := Fr.app N_119 NQ120
            have ne_b110_b120 : b110 ≠ b120 := ho120.elim (fun q z => ne_b110_b115 (z.trans q)) (fun q => Nat.ne_of_lt (Nat.lt_of_lt_of_le A_b110_119.lt q))
            have mem_b120 : b120 ∈ [] ∨ h0.size ≤ b120 := ho120.elim (fun q => q ▸ mem_b115) (fun q => Or.inr (Nat.le_trans K_119.1 q))
            show Goes p e below s _ _ _ T120 (mkF m 190 #[.val (.int p1), .val (.int p2), .val (.int p3), .val (.int p4), .val (.int p5), .val (.int (Int32.ofNat n)), .val (.int (1 : Int32)), .val (.int (1 : Int32)), .val (.int (1 : Int32)), .val (.ref b108), .val (.ref b110), .val (.int (7 : Int32)), .unset] [])
            refine Goes.step (fun _ k => XS.aload X120.here hx rfl (hb hby at_190) rfl rfl k) ?_
            show Goes p e below s _ _ _ T120 (mkF m 192 #[.val (.int p1), .val (.int p2), .val (.int p3), .val (.int p4), .val (.int p5), .val (.int (Int32.ofNat n)), .val (.int (1 : Int32)), .val (.int (1 : Int32)), .val (.int (1 : Int32)), .val (.ref b108), .val (.ref b110), .val (.int (7 : Int32)), .unset] [(.ref b108)])
            obtain ⟨v121, T121, h121, L121, X121, e121, Q121, st121⟩ := callXV X120 hx hZ (C := "com/example/proxysmith/proxysmith/ClassFileWriter$Bytes") (b := b108) (y := (⟨"com/example/proxysmith/proxysmith/ClassFileWriter$Bytes", "toByteArray", "()[B"⟩ : MethodName)) (z := (⟨"com/example/proxysmith/proxysmith/ClassFileWriter$Bytes", "toByteArray", "()[B"⟩ : MethodName)) hown (hw _ (List.mem_of_getElem? (i := 43) rfl)) (hw _ (List.mem_of_getElem? (i := 44) rfl)) (hw _ (List.mem_of_getElem? (i := 46) rfl)) (hw _ (List.mem_of_getElem? (i := 45) rfl)) (hw _ (List.mem_of_getElem? (i := 47) rfl)) (hw _ (List.mem_of_getElem? (i := 2) rfl)) (notFace_of_selects (args := #[]) (mvT hZ (hw _ (List.mem_of_getElem? (i := 46) rfl)))) (by decide) (W := 0) (argsL := []) (rest := []) (rm9 l Z a0 hw [] b108 b120 n120 7 f120 h120 n0 z_120 hE120 hFb120 hFs120 hA120 hab120 ge_b108 hg120 hs120 hn120 (by omega)) (by decide) (by decide) (by decide) (by decide) e120 hE120 (g := (mkF m 192 #[.val (.int p1), .val (.int p2), .val (.int p3), .val (.int p4), .val (.int p5), .val (.int (Int32.ofNat n)), .val (.int (1 : Int32)), .val (.int (1 : Int32)), .val (.int (1 : Int32)), .val (.ref b108), .val (.ref b110), .val (.int (7 : Int32)), .unset] [(.ref b108)])) rfl (by rw [hml]; rfl) (lenOf pd_0_1 rfl) rfl (by show 2 * 0 + _ ≤ _; exact Nat.le_of_eq rfl) (hb hby at_192)
            obtain ⟨r121, rfl, NQ121, KQ121, g121, hA121, hg121⟩ := Q121
            refine Goes.step st121 ?_
            have hE120_121 := hE120.keep KQ121
            have A_b110_121 := A_b110_120.keep KQ121 nin0
            have hFb120_121 := hFb120.keep KQ121 nin0
            have hFs120_121 := hFs120.keep KQ121 nin0
            have hA120_121 := hA120.keep KQ121 nin0
            have z_121 : n0 ≤ h121.size := Nat.le_trans z_120 KQ121.1
            have K_121 : Keep h0 h121 [] := Keep.trans K_120 KQ121 all0
            have N_121 := Fr.app N_120 NQ121
            show Goes p e below s _ _ _ T121 (mkF m 195 #[.val (.int p1), .val (.int p2), .val (.int p3), .val (.int p4), .val (.int p5), .val (.int (Int32.ofNat n)), .val (.int (1 : Int32)), .val (.int (1 : Int32)), .val (.int (1 : Int32)), .val (.ref b108), .val (.ref b110), .val (.int (7 : Int32)), .unset] [(.ref r121)])
            refine Goes.step (fun _ k => XS.astore X121.here hx rfl (hb hby at_195) rfl rfl (l' := #[.val (.int p1), .val (.int p2), .val (.int p3), .val (.int p4), .val (.int p5), .val (.int (Int32.ofNat n)), .val (.int (1 : Int32)), .val (.int (1 : Int32)), .val (.int (1 : Int32)), .val (.ref b108), .val (.ref b110), .val (.int (7 : Int32)), .val (.ref r121)]) rfl k) ?_
            show Goes p e below s _ _ _ T121 (mkF m 197 #[.val (.int p1), .val (.int p2), .val (.int p3), .val (.int p4), .val (.int p5), .val (.int (Int32.ofNat n)), .val (.int (1 : Int32)), .val (.int (1 : Int32)), .val (.int (1 : Int32)), .val (.ref b108), .val (.ref b110), .val (.int (7 : Int32)), .val (.ref r121)] [])
            refine Goes.step (fun _ k => XS.aload X121.here hx rfl (hb hby at_197) rfl rfl k) ?_
            show Goes p e below s _ _ _ T121 (mkF m 199 #[.val (.int p1), .val (.int p2), .val (.int p3), .val (.int p4), .val (.int p5), .val (.int (Int32.ofNat n)), .val (.int (1 : Int32)), .val (.int (1 : Int32)), .val (.int (1 : Int32)), .val (.ref b108), .val (.ref b110), .val (.int (7 : Int32)), .val (.ref r121)] [(.ref r121)])
            refine Goes.step (fun _ k => XS.ifnullNo X121.here hx rfl (hb hby at_199) rfl k) ?_
            show Goes p e below s _ _ _ T121 (mkF m 202 #[.val (.int p1), .val (.int p2), .val (.int p3), .val (.int p4), .val (.int p5), .val (.int (Int32.ofNat n)), .val (.int (1 : Int32)), .val (.int (1 : Int32)), .val (.int (1 : Int32)), .val (.ref b108), .val (.ref b110), .val (.int (7 : Int32)), .val (.ref r121)] [])
            refine Goes.step (fun _ k => XS.aload X121.here hx rfl (hb hby at_202) rfl rfl k) ?_
            show Goes p e below s _ _ _ T121 (mkF m 204 #[.val (.int p1), .val (.int p2), .val (.int p3), .val (.int p4), .val (.int p5), .val (.int (Int32.ofNat n)), .val (.int (1 : Int32)), .val (.int (1 : Int32)), .val (.int (1 : Int32)), .val (.ref b108), .val (.ref b110), .val (.int (7 : Int32)), .val (.ref r121)] [(.ref r121)])
            refine Goes.step (fun _ k => rdL X121 hx hZ e121 hA121 (g := (mkF m 204 #[.val (.int p1), .val (.int p2), .val (.int p3), .val (.int p4), .val (.int p5), .val (.int (Int32.ofNat n)), .val (.int (1 : Int32)), .val (.int (1 : Int32)), .val (.int (1 : Int32)), .val (.ref b108), .val (.ref b110), .val (.int (7 : Int32)), .val (.ref r121)] [(.ref r121)])) rfl rfl (hb hby at_204) _ k) ?_
            show Goes p e below s _ _ _ T121 (mkF m 205 #[.val (.int p1), .val (.int p2), .val (.int p3), .val (.int p4), .val (.int p5), .val (.int (Int32.ofNat n)), .val (.int (1 : Int32)), .val (.int (1 : Int32)), .val (.int (1 : Int32)), .val (.ref b108), .val (.ref b110), .val (.int (7 : Int32)), .val (.ref r121)] [(.int (Int32.ofNat 7))])
            refine Goes.step (fun _ k => XS.iload X121.here hx rfl (hb hby at_205) rfl k) ?_
            show Goes p e below s _ _ _ T121 (mkF m 207 #[.val (.int p1), .val (.int p2), .val (.int p3), .val (.int p4), .val (.int p5), .val (.int (Int32.ofNat n)), .val (.int (1 : Int32)), .val (.int (1 : Int32)), .val (.int (1 : Int32)), .val (.ref b108), .val (.ref b110), .val (.int (7 : Int32)), .val (.ref r121)] [(.int (7 : Int32)), (.int (Int32.ofNat 7))])
            refine Goes.step (fun _ k => XS.icmpYes X121.here hx rfl (pc0 := 207) (pc' := 212) rfl (hb hby at_207) rfl (teq (by decide : (Int32.ofNat 7) = (7 : Int32))).1 (by decide) (by decide) k) ?_
            show Goes p e below s _ _ _ T121 (mkF m 212 #[.val (.int p1), .val (.int p2), .val (.int p3), .val (.int p4), .val (.int p5), .val (.int (Int32.ofNat n)), .val (.int (1 : Int32)), .val (.int (1 : Int32)), .val (.int (1 : Int32)), .val (.ref b108), .val (.ref b110), .val (.int (7 : Int32)), .val (.ref r121)] [])
            refine Goes.step (fun _ k => XS.aload X121.here hx rfl (hb hby at_212) rfl rfl k) ?_
            show Goes p e below s _ _ _ T121 (mkF m 214 #[.val (.int p1), .val (.int p2), .val (.int p3), .val (.int p4), .val (.int p5), .val (.int (Int32.ofNat n)), .val (.int (1 : Int32)), .val (.int (1 : Int32)), .val (.int (1 : Int32)), .val (.ref b108), .val (.ref b110), .val (.int (7 : Int32)), .val (.ref r121)] [(.ref r121)])
            refine Goes.step (fun _ k => XS.aload X121.here hx rfl (hb hby at_214) rfl rfl k) ?_
            show Goes p e below s _ _ _ T121 (mkF m 216 #[.val (.int p1), .val (.int p2), .val (.int p3), .val (.int p4), .val (.int p5), .val (.int (Int32.ofNat n)), .val (.int (1 : Int32)), .val (.int (1 : Int32)), .val (.int (1 : Int32)), .val (.ref b108), .val (.ref b110), .val (.int (7 : Int32)), .val (.ref r121)] [(.ref b110), (.ref r121)])
            refine Goes.step (fun _ k => XS.iload X121.here hx rfl (hb hby at_216) rfl k) ?_
            show Goes p e below s _ _ _ T121 (mkF m 218 #[.val (.int p1), .val (.int p2), .val (.int p3), .val (.int p4), .val (.int p5), .val (.int (Int32.ofNat n)), .val (.int (1 : Int32)), .val (.int (1 : Int32)), .val (.int (1 : Int32)), .val (.ref b108), .val (.ref b110), .val (.int (7 : Int32)), .val (.ref r121)] [(.int (7 : Int32)), (.ref b110), (.ref r121)])
            refine Goes.step (fun _ k => XS.iconst X121.here hx rfl (hb hby at_218) k) ?_
            show Goes p e below s _ _ _ T121 (mkF m 219 #[.val (.int p1), .val (.int p2), .val (.int p3), .val (.int p4), .val (.int p5), .val (.int (Int32.ofNat n)), .val (.int (1 : Int32)), .val (.int (1 : Int32)), .val (.int (1 : Int32)), .val (.ref b108), .val (.ref b110), .val (.int (7 : Int32)), .val (.ref r121)] [(.int (0 : Int32)), (.int (7 : Int32)), (.ref b110), (.ref r121)])
            obtain ⟨T122, X122, e122, st122⟩ := callPure X121 hx hZ (y := (⟨"com/example/proxysmith/proxysmith/BytesToByteArrayPinLaw", "same", "([B[BII)Z"⟩ : MethodName)) hown (hw _ (List.mem_of_getElem? (i := 48) rfl)) (hw _ (List.mem_of_getElem? (i := 49) rfl)) (hw _ (List.mem_of_getElem? (i := 50) rfl)) (hw _ (List.mem_of_getElem? (i := 51) rfl)) (by decide) (W := 0) (argsL := [(.ref r121), (.ref b110), (.int (7 : Int32)), (.int (0 : Int32))]) (rest := []) (r := (.int (1 : Int32))) (fun _ _ _ q => q) (rm10b l Z a0 hw [] r121 b110 (7 : Int32) (0 : Int32) 0 7 7 g121 (updI (updI (updI (updI (updI (updI (updI (fun _ => 0) (0) ((p3.toInt8.toInt32).toInt8.toInt32)) (1) ((((p4.toUInt32 >>> ((8 : Int32) &&& 31).toUInt32).toInt32).toInt8.toInt32).toInt8.toInt32)) (2) ((p4.toInt8.toInt32).toInt8.toInt32)) (3) ((((p5.toUInt32 >>> ((24 : Int32) &&& 31).toUInt32).toInt32).toInt8.toInt32).toInt8.toInt32)) (4) ((((p5.toUInt32 >>> ((16 : Int32) &&& 31).toUInt32).toInt32).toInt8.toInt32).toInt8.toInt32)) (5) ((((p5.toUInt32 >>> ((8 : Int32) &&& 31).toUInt32).toInt32).toInt8.toInt32).toInt8.toInt32)) (6) ((p5.toInt8.toInt32).toInt8.toInt32)) h121 n0 z_121 (by decide) rfl hA121 A_b110_121 (by decide) (by decide) ((hg121 0 (by omega)).trans (((hf120 0 (by omega)).trans ((hf115 0 (by omega)).trans hv112)).trans (own_BB _).symm))) (by decide) (by decide) (by decide) (by decide) e121 (g := (mkF m 219 #[.val (.int p1), .val (.int p2), .val (.int p3), .val (.int p4), .val (.int p5), .val (.int (Int32.ofNat n)), .val (.int (1 : Int32)), .val (.int (1 : Int32)), .val (.int (1 : Int32)), .val (.ref b108), .val (.ref b110), .val (.int (7 : Int32)), .val (.ref r121)] [(.int (0 : Int32)), (.int (7 : Int32)), (.ref b110), (.ref r121)])) rfl (by rw [hml]; rfl) (lenOf pd_0_2 rfl) rfl (by show 2 * 0 + _ ≤ _; exact Nat.le_of_eq rfl) (hb hby at_219)
            refine Goes.step st122 ?_
            show Goes p e below s _ _ _ T122 (mkF m 222 #[.val (.int p1), .val (.int p2), .val (.int p3), .val (.int p4), .val (.int p5), .val (.int (Int32.ofNat n)), .val (.int (1 : Int32)), .val (.int (1 : Int32)), .val (.int (1 : Int32)), .val (.ref b108), .val (.ref b110), .val (.int (7 : Int32)), .val (.ref r121)] [(.int (1 : Int32))])
            refine Goes.step (fun _ k => XS.ifNo X122.here hx rfl (hb hby at_222) rfl ((if0 _ _).trans (feq (by decide : ¬ ((1 : Int32) = (0 : Int32)))).1) k) ?_
            show Goes p e below s _ _ _ T122 (mkF m 225 #[.val (.int p1), .val (.int p2), .val (.int p3), .val (.int p4), .val (.int p5), .val (.int (Int32.ofNat n)), .val (.int (1 : Int32)), .val (.int (1 : Int32)), .val (.int (1 : Int32)), .val (.ref b108), .val (.ref b110), .val (.int (7 : Int32)), .val (.ref r121)] [])
            refine Goes.step (fun _ k => XS.aload X122.here hx rfl (hb hby at_225) rfl rfl k) ?_
            show Goes p e below s _ _ _ T122 (mkF m 227 #[.val (.int p1), .val (.int p2), .val (.int p3), .val (.int p4), .val (.int p5), .val (.int (Int32.ofNat n)), .val (.int (1 : Int32)), .val (.int (1 : Int32)), .val (.int (1 : Int32)), .val (.ref b108), .val (.ref b110), .val (.int (7 : Int32)), .val (.ref r121)] [(.ref r121)])
            refine Goes.step (fun _ k => XS.aload X122.here hx rfl (hb hby at_227) rfl rfl k) ?_
            show Goes p e below s _ _ _ T122 (mkF m 229 #[.val (.int p1), .val (.int p2), .val (.int p3), .val (.int p4), .val (.int p5), .val (.int (Int32.ofNat n)), .val (.int (1 : Int32)), .val (.int (1 : Int32)), .val (.int (1 : Int32)), .val (.ref b108), .val (.ref b110), .val (.int (7 : Int32)), .val (.ref r121)] [(.ref b110), (.ref r121)])
            refine Goes.step (fun _ k => XS.iload X122.here hx rfl (hb hby at_229) rfl k) ?_
            show Goes p e below s _ _ _ T122 (mkF m 231 #[.val (.int p1), .val (.int p2), .val (.int p3), .val (.int p4), .val (.int p5), .val (.int (Int32.ofNat n)), .val (.int (1 : Int32)), .val (.int (1 : Int32)), .val (.int (1 : Int32)), .val (.ref b108), .val (.ref b110), .val (.int (7 : Int32)), .val (.ref r121)] [(.int (7 : Int32)), (.ref b110), (.ref r121)])
            refine Goes.step (fun _ k => XS.iconst X122.here hx rfl (hb hby at_231) k) ?_
            show Goes p e below s _ _ _ T122 (mkF m 232 #[.val (.int p1), .val (.int p2), .val (.int p3), .val (.int p4), .val (.int p5), .val (.int (Int32.ofNat n)), .val (.int (1 : Int32)), .val (.int (1 : Int32)), .val (.int (1 : Int32)), .val (.ref b108), .val (.ref b110), .val (.int (7 : Int32)), .val (.ref r121)] [(.int (1 : Int32)), (.int (7 : Int32)), (.ref b110), (.ref r121)])
            obtain ⟨T123, X123, e123, st123⟩ := callPure X122 hx hZ (y := (⟨"com/example/proxysmith/proxysmith/BytesToByteArrayPinLaw", "same", "([B[BII)Z"⟩ : MethodName)) hown (hw _ (List.mem_of_getElem? (i := 48) rfl)) (hw _ (List.mem_of_getElem? (i := 49) rfl)) (hw _ (List.mem_of_getElem? (i := 50) rfl)) (hw _ (List.mem_of_getElem? (i := 51) rfl)) (by decide) (W := 0) (argsL := [(.ref r121), (.ref b110), (.int (7 : Int32)), (.int (1 : Int32))]) (rest := []) (r := (.int (1 : Int32))) (fun _ _ _ q => q) (rm10b l Z a0 hw [] r121 b110 (7 : Int32) (1 : Int32) 1 7 7 g121 (updI (updI (updI (updI (updI (updI (updI (fun _ => 0) (0) ((p3.toInt8.toInt32).toInt8.toInt32)) (1) ((((p4.toUInt32 >>> ((8 : Int32) &&& 31).toUInt32).toInt32).toInt8.toInt32).toInt8.toInt32)) (2) ((p4.toInt8.toInt32).toInt8.toInt32)) (3) ((((p5.toUInt32 >>> ((24 : Int32) &&& 31).toUInt32).toInt32).toInt8.toInt32).toInt8.toInt32)) (4) ((((p5.toUInt32 >>> ((16 : Int32) &&& 31).toUInt32).toInt32).toInt8.toInt32).toInt8.toInt32)) (5) ((((p5.toUInt32 >>> ((8 : Int32) &&& 31).toUInt32).toInt32).toInt8.toInt32).toInt8.toInt32)) (6) ((p5.toInt8.toInt32).toInt8.toInt32)) h121 n0 z_121 (by decide) rfl hA121 A_b110_121 (by decide) (by decide) ((hg121 1 (by omega)).trans (((hf120 1 (by omega)).trans hv115).trans (own_BB _).symm))) (by decide) (by decide) (by decide) (by decide) e122 (g := (mkF m 232 #[.val (.int p1), .val (.int p2), .val (.int p3), .val (.int p4), .val (.int p5), .val (.int (Int32.ofNat n)), .val (.int (1 : Int32)), .val (.int (1 : Int32)), .val (.int (1 : Int32)), .val (.ref b108), .val (.ref b110), .val (.int (7 : Int32)), .val (.ref r121)] [(.int (1 : Int32)), (.int (7 : Int32)), (.ref b110), (.ref r121)])) rfl (by rw [hml]; rfl) (lenOf pd_0_2 rfl) rfl (by show 2 * 0 + _ ≤ _; exact Nat.le_of_eq rfl) (hb hby at_232)
            refine Goes.step st123 ?_
            show Goes p e below s _ _ _ T123 (mkF m 235 #[.val (.int p1), .val (.int p2), .val (.int p3), .val (.int p4), .val (.int p5), .val (.int (Int32.ofNat n)), .val (.int (1 : Int32)), .val (.int (1 : Int32)), .val (.int (1 : Int32)), .val (.ref b108), .val (.ref b110), .val (.int (7 : Int32)), .val (.ref r121)] [(.int (1 : Int32))])
            refine Goes.step (fun _ k => XS.ifNo X123.here hx rfl (hb hby at_235) rfl ((if0 _ _).trans (feq (by decide : ¬ ((1 : Int32) = (0 : Int32)))).1) k) ?_
            show Goes p e below s _ _ _ T123 (mkF m 238 #[.val (.int p1), .val (.int p2), .val (.int p3), .val (.int p4), .val (.int p5), .val (.int (Int32.ofNat n)), .val (.int (1 : Int32)), .val (.int (1 : Int32)), .val (.int (1 : Int32)), .val (.ref b108), .val (.ref b110), .val (.int (7 : Int32)), .val (.ref r121)] [])
            refine Goes.step (fun _ k => XS.aload X123.here hx rfl (hb hby at_238) rfl rfl k) ?_
            show Goes p e below s _ _ _ T123 (mkF m 240 #[.val (.int p1), .val (.int p2), .val (.int p3), .val (.int p4), .val (.int p5), .val (.int (Int32.ofNat n)), .val (.int (1 : Int32)), .val (.int (1 : Int32)), .val (.int (1 : Int32)), .val (.ref b108), .val (.ref b110), .val (.int (7 : Int32)), .val (.ref r121)] [(.ref r121)])
            refine Goes.step (fun _ k => XS.aload X123.here hx rfl (hb hby at_240) rfl rfl k) ?_
            show Goes p e below s _ _ _ T123 (mkF m 242 #[.val (.int p1), .val (.int p2), .val (.int p3), .val (.int p4), .val (.int p5), .val (.int (Int32.ofNat n)), .val (.int (1 : Int32)), .val (.int (1 : Int32)), .val (.int (1 : Int32)), .val (.ref b108), .val (.ref b110), .val (.int (7 : Int32)), .val (.ref r121)] [(.ref b110), (.ref r121)])
            refine Goes.step (fun _ k => XS.iload X123.here hx rfl (hb hby at_242) rfl k) ?_
            show Goes p e below s _ _ _ T123 (mkF m 244 #[.val (.int p1), .val (.int p2), .val (.int p3), .val (.int p4), .val (.int p5), .val (.int (Int32.ofNat n)), .val (.int (1 : Int32)), .val (.int (1 : Int32)), .val (.int (1 : Int32)), .val (.ref b108), .val (.ref b110), .val (.int (7 : Int32)), .val (.ref r121)] [(.int (7 : Int32)), (.ref b110), (.ref r121)])
            refine Goes.step (fun _ k => XS.iconst X123.here hx rfl (hb hby at_244) k) ?_
            show Goes p e below s _ _ _ T123 (mkF m 245 #[.val (.int p1), .val (.int p2), .val (.int p3), .val (.int p4), .val (.int p5), .val (.int (Int32.ofNat n)), .val (.int (1 : Int32)), .val (.int (1 : Int32)), .val (.int (1 : Int32)), .val (.ref b108), .val (.ref b110), .val (.int (7 : Int32)), .val (.ref r121)] [(.int (2 : Int32)), (.int (7 : Int32)), (.ref b110), (.ref r121)])
            obtain ⟨T124, X124, e124, st124⟩ := callPure X123 hx hZ (y := (⟨"com/example/proxysmith/proxysmith/BytesToByteArrayPinLaw", "same", "([B[BII)Z"⟩ : MethodName)) hown (hw _ (List.mem_of_getElem? (i := 48) rfl)) (hw _ (List.mem_of_getElem? (i := 49) rfl)) (hw _ (List.mem_of_getElem? (i := 50) rfl)) (hw _ (List.mem_of_getElem? (i := 51) rfl)) (by decide) (W := 0) (argsL := [(.ref r121), (.ref b110), (.int (7 : Int32)), (.int (2 : Int32))]) (rest := []) (r := (.int (1 : Int32))) (fun _ _ _ q => q) (rm10b l Z a0 hw [] r121 b110 (7 : Int32) (2 : Int32) 2 7 7 g121 (updI (updI (updI (updI (updI (updI (updI (fun _ => 0) (0) ((p3.toInt8.toInt32).toInt8.toInt32)) (1) ((((p4.toUInt32 >>> ((8 : Int32) &&& 31).toUInt32).toInt32).toInt8.toInt32).toInt8.toInt32)) (2) ((p4.toInt8.toInt32).toInt8.toInt32)) (3) ((((p5.toUInt32 >>> ((24 : Int32) &&& 31).toUInt32).toInt32).toInt8.toInt32).toInt8.toInt32)) (4) ((((p5.toUInt32 >>> ((16 : Int32) &&& 31).toUInt32).toInt32).toInt8.toInt32).toInt8.toInt32)) (5) ((((p5.toUInt32 >>> ((8 : Int32) &&& 31).toUInt32).toInt32).toInt8.toInt32).toInt8.toInt32)) (6) ((p5.toInt8.toInt32).toInt8.toInt32)) h121 n0 z_121 (by decide) rfl hA121 A_b110_121 (by decide) (by decide) ((hg121 2 (by omega)).trans (((hf120 2 (by omega)).trans hu115).trans (own_BB _).symm))) (by decide) (by decide) (by decide) (by decide) e123 (g := (mkF m 245 #[.val (.int p1), .val (.int p2), .val (.int p3), .val (.int p4), .val (.int p5), .val (.int (Int32.ofNat n)), .val (.int (1 : Int32)), .val (.int (1 : Int32)), .val (.int (1 : Int32)), .val (.ref b108), .val (.ref b110), .val (.int (7 : Int32)), .val (.ref r121)] [(.int (2 : Int32)), (.int (7 : Int32)), (.ref b110), (.ref r121)])) rfl (by rw [hml]; rfl) (lenOf pd_0_2 rfl) rfl (by show 2 * 0 + _ ≤ _; exact Nat.le_of_eq rfl) (hb hby at_245)
            refine Goes.step st124 ?_
            show Goes p e below s _ _ _ T124 (mkF m 248 #[.val (.int p1), .val (.int p2), .val (.int p3), .val (.int p4), .val (.int p5), .val (.int (Int32.ofNat n)), .val (.int (1 : Int32)), .val (.int (1 : Int32)), .val (.int (1 : Int32)), .val (.ref b108), .val (.ref b110), .val (.int (7 : Int32)), .val (.ref r121)] [(.int (1 : Int32))])
            refine Goes.step (fun _ k => XS.ifNo X124.here hx rfl (hb hby at_248) rfl ((if0 _ _).trans (feq (by decide : ¬ ((1 : Int32) = (0 : Int32)))).1) k) ?_
            show Goes p e below s _ _ _ T124 (mkF m 251 #[.val (.int p1), .val (.int p2), .val (.int p3), .val (.int p4), .val (.int p5), .val (.int (Int32.ofNat n)), .val (.int (1 : Int32)), .val (.int (1 : Int32)), .val (.int (1 : Int32)), .val (.ref b108), .val (.ref b110), .val (.int (7 : Int32)), .val (.ref r121)] [])
            refine Goes.step (fun _ k => XS.aload X124.here hx rfl (hb hby at_251) rfl rfl k) ?_
            show Goes p e below s _ _ _ T124 (mkF m 253 #[.val (.int p1), .val (.int p2), .val (.int p3), .val (.int p4), .val (.int p5), .val (.int (Int32.ofNat n)), .val (.int (1 : Int32)), .val (.int (1 : Int32)), .val (.int (1 : Int32)), .val (.ref b108), .val (.ref b110), .val (.int (7 : Int32)), .val (.ref r121)] [(.ref r121)])
            refine Goes.step (fun _ k => XS.aload X124.here hx rfl (hb hby at_253) rfl rfl k) ?_
            show Goes p e below s _ _ _ T124 (mkF m 255 #[.val (.int p1), .val (.int p2), .val (.int p3), .val (.int p4), .val (.int p5), .val (.int (Int32.ofNat n)), .val (.int (1 : Int32)), .val (.int (1 : Int32)), .val (.int (1 : Int32)), .val (.ref b108), .val (.ref b110), .val (.int (7 : Int32)), .val (.ref r121)] [(.ref b110), (.ref r121)])
            refine Goes.step (fun _ k => XS.iload X124.here hx rfl (hb hby at_255) rfl k) ?_
            show Goes p e below s _ _ _ T124 (mkF m 257 #[.val (.int p1), .val (.int p2), .val (.int p3), .val (.int p4), .val (.int p5), .val (.int (Int32.ofNat n)), .val (.int (1 : Int32)), .val (.int (1 : Int32)), .val (.int (1 : Int32)), .val (.ref b108), .val (.ref b110), .val (.int (7 : Int32)), .val (.ref r121)] [(.int (7 : Int32)), (.ref b110), (.ref r121)])
            refine Goes.step (fun _ k => XS.iconst X124.here hx rfl (hb hby at_257) k) ?_
            show Goes p e below s _ _ _ T124 (mkF m 258 #[.val (.int p1), .val (.int p2), .val (.int p3), .val (.int p4), .val (.int p5), .val (.int (Int32.ofNat n)), .val (.int (1 : Int32)), .val (.int (1 : Int32)), .val (.int (1 : Int32)), .val (.ref b108), .val (.ref b110), .val (.int (7 : Int32)), .val (.ref r121)] [(.int (3 : Int32)), (.int (7 : Int32)), (.ref b110), (.ref r121)])
            obtain ⟨T125, X125, e125, st125⟩ := callPure X124 hx hZ (y := (⟨"com/example/proxysmith/proxysmith/BytesToByteArrayPinLaw", "same", "([B[BII)Z"⟩ : MethodName)) hown (hw _ (List.mem_of_getElem? (i := 48) rfl)) (hw _ (List.mem_of_getElem? (i := 49) rfl)) (hw _ (List.mem_of_getElem? (i := 50) rfl)) (hw _ (List.mem_of_getElem? (i := 51) rfl)) (by decide) (W := 0) (argsL := [(.ref r121), (.ref b110), (.int (7 : Int32)), (.int (3 : Int32))]) (rest := []) (r := (.int (1 : Int32))) (fun _ _ _ q => q) (rm10b l Z a0 hw [] r121 b110 (7 : Int32) (3 : Int32) 3 7 7 g121 (updI (updI (updI (updI (updI (updI (updI (fun _ => 0) (0) ((p3.toInt8.toInt32).toInt8.toInt32)) (1) ((((p4.toUInt32 >>> ((8 : Int32) &&& 31).toUInt32).toInt32).toInt8.toInt32).toInt8.toInt32)) (2) ((p4.toInt8.toInt32).toInt8.toInt32)) (3) ((((p5.toUInt32 >>> ((24 : Int32) &&& 31).toUInt32).toInt32).toInt8.toInt32).toInt8.toInt32)) (4) ((((p5.toUInt32 >>> ((16 : Int32) &&& 31).toUInt32).toInt32).toInt8.toInt32).toInt8.toInt32)) (5) ((((p5.toUInt32 >>> ((8 : Int32) &&& 31).toUInt32).toInt32).toInt8.toInt32).toInt8.toInt32)) (6) ((p5.toInt8.toInt32).toInt8.toInt32)) h121 n0 z_121 (by decide) rfl hA121 A_b110_121 (by decide) (by decide) ((hg121 3 (by omega)).trans (hv120.trans (own_24 _)))) (by decide) (by decide) (by decide) (by decide) e124 (g := (mkF m 258 #[.val (.int p1), .val (.int p2), .val (.int p3), .val (.int p4), .val (.int p5), .val (.int (Int32.ofNat n)), .val (.int (1 : Int32)), .val (.int (1 : Int32)), .val (.int (1 : Int32)), .val (.ref b108), .val (.ref b110), .val (.int (7 : Int32)), .val (.ref r121)] [(.int (3 : Int32)), (.int (7 : Int32)), (.ref b110), (.ref r121)])) rfl (by rw [hml]; rfl) (lenOf pd_0_2 rfl) rfl (by show 2 * 0 + _ ≤ _; exact Nat.le_of_eq rfl) (hb hby at_258)
            refine Goes.step st125 ?_
            show Goes p e below s _ _ _ T125 (mkF m 261 #[.val (.int p1), .val (.int p2), .val (.int p3), .val (.int p4), .val (.int p5), .val (.int (Int32.ofNat n)), .val (.int (1 : Int32)), .val (.int (1 : Int32)), .val (.int (1 : Int32)), .val (.ref b108), .val (.ref b110), .val (.int (7 : Int32)), .val (.ref r121)] [(.int (1 : Int32))])
            refine Goes.step (fun _ k => XS.ifNo X125.here hx rfl (hb hby at_261) rfl ((if0 _ _).trans (feq (by decide : ¬ ((1 : Int32) = (0 : Int32)))).1) k) ?_
            show Goes p e below s _ _ _ T125 (mkF m 264 #[.val (.int p1), .val (.int p2), .val (.int p3), .val (.int p4), .val (.int p5), .val (.int (Int32.ofNat n)), .val (.int (1 : Int32)), .val (.int (1 : Int32)), .val (.int (1 : Int32)), .val (.ref b108), .val (.ref b110), .val (.int (7 : Int32)), .val (.ref r121)] [])
            refine Goes.step (fun _ k => XS.aload X125.here hx rfl (hb hby at_264) rfl rfl k) ?_
            show Goes p e below s _ _ _ T125 (mkF m 266 #[.val (.int p1), .val (.int p2), .val (.int p3), .val (.int p4), .val (.int p5), .val (.int (Int32.ofNat n)), .val (.int (1 : Int32)), .val (.int (1 : Int32)), .val (.int (1 : Int32)), .val (.ref b108), .val (.ref b110), .val (.int (7 : Int32)), .val (.ref r121)] [(.ref r121)])
            refine Goes.step (fun _ k => XS.aload X125.here hx rfl (hb hby at_266) rfl rfl k) ?_
            show Goes p e below s _ _ _ T125 (mkF m 268 #[.val (.int p1), .val (.int p2), .val (.int p3), .val (.int p4), .val (.int p5), .val (.int (Int32.ofNat n)), .val (.int (1 : Int32)), .val (.int (1 : Int32)), .val (.int (1 : Int32)), .val (.ref b108), .val (.ref b110), .val (.int (7 : Int32)), .val (.ref r121)] [(.ref b110), (.ref r121)])
            refine Goes.step (fun _ k => XS.iload X125.here hx rfl (hb hby at_268) rfl k) ?_
            show Goes p e below s _ _ _ T125 (mkF m 270 #[.val (.int p1), .val (.int p2), .val (.int p3), .val (.int p4), .val (.int p5), .val (.int (Int32.ofNat n)), .val (.int (1 : Int32)), .val (.int (1 : Int32)), .val (.int (1 : Int32)), .val (.ref b108), .val (.ref b110), .val (.int (7 : Int32)), .val (.ref r121)] [(.int (7 : Int32)), (.ref b110), (.ref r121)])
            refine Goes.step (fun _ k => XS.iconst X125.here hx rfl (hb hby at_270) k) ?_
            show Goes p e below s _ _ _ T125 (mkF m 271 #[.val (.int p1), .val (.int p2), .val (.int p3), .val (.int p4), .val (.int p5), .val (.int (Int32.ofNat n)), .val (.int (1 : Int32)), .val (.int (1 : Int32)), .val (.int (1 : Int32)), .val (.ref b108), .val (.ref b110), .val (.int (7 : Int32)), .val (.ref r121)] [(.int (4 : Int32)), (.int (7 : Int32)), (.ref b110), (.ref r121)])
            obtain ⟨T126, X126, e126, st126⟩ := callPure X125 hx hZ (y := (⟨"com/example/proxysmith/proxysmith/BytesToByteArrayPinLaw", "same", "([B[BII)Z"⟩ : MethodName)) hown (hw _ (List.mem_of_getElem? (i := 48) rfl)) (hw _ (List.mem_of_getElem? (i := 49) rfl)) (hw _ (List.mem_of_getElem? (i := 50) rfl)) (hw _ (List.mem_of_getElem? (i := 51) rfl)) (by decide) (W := 0) (argsL := [(.ref r121), (.ref b110), (.int (7 : Int32)), (.int (4 : Int32))]) (rest := []) (r := (.int (1 : Int32))) (fun _ _ _ q => q) (rm10b l Z a0 hw [] r121 b110 (7 : Int32) (4 : Int32) 4 7 7 g121 (updI (updI (updI (updI (updI (updI (updI (fun _ => 0) (0) ((p3.toInt8.toInt32).toInt8.toInt32)) (1) ((((p4.toUInt32 >>> ((8 : Int32) &&& 31).toUInt32).toInt32).toInt8.toInt32).toInt8.toInt32)) (2) ((p4.toInt8.toInt32).toInt8.toInt32)) (3) ((((p5.toUInt32 >>> ((24 : Int32) &&& 31).toUInt32).toInt32).toInt8.toInt32).toInt8.toInt32)) (4) ((((p5.toUInt32 >>> ((16 : Int32) &&& 31).toUInt32).toInt32).toInt8.toInt32).toInt8.toInt32)) (5) ((((p5.toUInt32 >>> ((8 : Int32) &&& 31).toUInt32).toInt32).toInt8.toInt32).toInt8.toInt32)) (6) ((p5.toInt8.toInt32).toInt8.toInt32)) h121 n0 z_121 (by decide) rfl hA121 A_b110_121 (by decide) (by decide) ((hg121 4 (by omega)).trans (hu120.trans (own_BB _).symm))) (by decide) (by decide) (by decide) (by decide) e125 (g := (mkF m 271 #[.val (.int p1), .val (.int p2), .val (.int p3), .val (.int p4), .val (.int p5), .val (.int (Int32.ofNat n)), .val (.int (1 : Int32)), .val (.int (1 : Int32)), .val (.int (1 : Int32)), .val (.ref b108), .val (.ref b110), .val (.int (7 : Int32)), .val (.ref r121)] [(.int (4 : Int32)), (.int (7 : Int32)), (.ref b110), (.ref r121)])) rfl (by rw [hml]; rfl) (lenOf pd_0_2 rfl) rfl (by show 2 * 0 + _ ≤ _; exact Nat.le_of_eq rfl) (hb hby at_271)
            refine Goes.step st126 ?_
            show Goes p e below s _ _ _ T126 (mkF m 274 #[.val (.int p1), .val (.int p2), .val (.int p3), .val (.int p4), .val (.int p5), .val (.int (Int32.ofNat n)), .val (.int (1 : Int32)), .val (.int (1 : Int32)), .val (.int (1 : Int32)), .val (.ref b108), .val (.ref b110), .val (.int (7 : Int32)), .val (.ref r121)] [(.int (1 : Int32))])
            refine Goes.step (fun _ k => XS.ifNo X126.here hx rfl (hb hby at_274) rfl ((if0 _ _).trans (feq (by decide : ¬ ((1 : Int32) = (0 : Int32)))).1) k) ?_
            show Goes p e below s _ _ _ T126 (mkF m 277 #[.val (.int p1), .val (.int p2), .val (.int p3), .val (.int p4), .val (.int p5), .val (.int (Int32.ofNat n)), .val (.int (1 : Int32)), .val (.int (1 : Int32)), .val (.int (1 : Int32)), .val (.ref b108), .val (.ref b110), .val (.int (7 : Int32)), .val (.ref r121)] [])
            refine Goes.step (fun _ k => XS.aload X126.here hx rfl (hb hby at_277) rfl rfl k) ?_
            show Goes p e below s _ _ _ T126 (mkF m 279 #[.val (.int p1), .val (.int p2), .val (.int p3), .val (.int p4), .val (.int p5), .val (.int (Int32.ofNat n)), .val (.int (1 : Int32)), .val (.int (1 : Int32)), .val (.int (1 : Int32)), .val (.ref b108), .val (.ref b110), .val (.int (7 : Int32)), .val (.ref r121)] [(.ref r121)])
            refine Goes.step (fun _ k => XS.aload X126.here hx rfl (hb hby at_279) rfl rfl k) ?_
            show Goes p e below s _ _ _ T126 (mkF m 281 #[.val (.int p1), .val (.int p2), .val (.int p3), .val (.int p4), .val (.int p5), .val (.int (Int32.ofNat n)), .val (.int (1 : Int32)), .val (.int (1 : Int32)), .val (.int (1 : Int32)), .val (.ref b108), .val (.ref b110), .val (.int (7 : Int32)), .val (.ref r121)] [(.ref b110), (.ref r121)])
            refine Goes.step (fun _ k => XS.iload X126.here hx rfl (hb hby at_281) rfl k) ?_
            show Goes p e below s _ _ _ T126 (mkF m 283 #[.val (.int p1), .val (.int p2), .val (.int p3), .val (.int p4), .val (.int p5), .val (.int (Int32.ofNat n)), .val (.int (1 : Int32)), .val (.int (1 : Int32)), .val (.int (1 : Int32)), .val (.ref b108), .val (.ref b110), .val (.int (7 : Int32)), .val (.ref r121)] [(.int (7 : Int32)), (.ref b110), (.ref r121)])
            refine Goes.step (fun _ k => XS.iconst X126.here hx rfl (hb hby at_283) k) ?_
            show Goes p e below s _ _ _ T126 (mkF m 284 #[.val (.int p1), .val (.int p2), .val (.int p3), .val (.int p4), .val (.int p5), .val (.int (Int32.ofNat n)), .val (.int (1 : Int32)), .val (.int (1 : Int32)), .val (.int (1 : Int32)), .val (.ref b108), .val (.ref b110), .val (.int (7 : Int32)), .val (.ref r121)] [(.int (5 : Int32)), (.int (7 : Int32)), (.ref b110), (.ref r121)])
            as_aux_lemma =>
              obtain ⟨T127, X127, e127, st127⟩ := callPure X126 hx hZ (y := (⟨"com/example/proxysmith/proxysmith/BytesToByteArrayPinLaw", "same", "([B[BII)Z"⟩ : MethodName)) hown (hw _ (List.mem_of_getElem? (i := 48) rfl)) (hw _ (List.mem_of_getElem? (i := 49) rfl)) (hw _ (List.mem_of_getElem? (i := 50) rfl)) (hw _ (List.mem_of_getElem? (i := 51) rfl)) (by decide) (W := 0) (argsL := [(.ref r121), (.ref b110), (.int (7 : Int32)), (.int (5 : Int32))]) (rest := []) (r := (.int (1 : Int32))) (fun _ _ _ q => q) (rm10b l Z a0 hw [] r121 b110 (7 : Int32) (5 : Int32) 5 7 7 g121 (updI (updI (updI (updI (updI (updI (updI (fun _ => 0) (0) ((p3.toInt8.toInt32).toInt8.toInt32)) (1) ((((p4.toUInt32 >>> ((8 : Int32) &&& 31).toUInt32).toInt32).toInt8.toInt32).toInt8.toInt32)) (2) ((p4.toInt8.toInt32).toInt8.toInt32)) (3) ((((p5.toUInt32 >>> ((24 : Int32) &&& 31).toUInt32).toInt32).toInt8.toInt32).toInt8.toInt32)) (4) ((((p5.toUInt32 >>> ((16 : Int32) &&& 31).toUInt32).toInt32).toInt8.toInt32).toInt8.toInt32)) (5) ((((p5.toUInt32 >>> ((8 : Int32) &&& 31).toUInt32).toInt32).toInt8.toInt32).toInt8.toInt32)) (6) ((p5.toInt8.toInt32).toInt8.toInt32)) h121 n0 z_121 (by decide) rfl hA121 A_b110_121 (by decide) (by decide) ((hg121 5 (by omega)).trans (hx120.trans (own_BB _).symm))) (by decide) (by decide) (by decide) (by decide) e126 (g := (mkF m 284 #[.val (.int p1), .val (.int p2), .val (.int p3), .val (.int p4), .val (.int p5), .val (.int (Int32.ofNat n)), .val (.int (1 : Int32)), .val (.int (1 : Int32)), .val (.int (1 : Int32)), .val (.ref b108), .val (.ref b110), .val (.int (7 : Int32)), .val (.ref r121)] [(.int (5 : Int32)), (.int (7 : Int32)), (.ref b110), (.ref r121)])) rfl (by rw [hml]; rfl) (lenOf pd_0_2 rfl) rfl (by show 2 * 0 + _ ≤ _; exact Nat.le_of_eq rfl) (hb hby at_284)
              refine Goes.step st127 ?_
              show Goes p e below s _ _ _ T127 (mkF m 287 #[.val (.int p1), .val (.int p2), .val (.int p3), .val (.int p4), .val (.int p5), .val (.int (Int32.ofNat n)), .val (.int (1 : Int32)), .val (.int (1 : Int32)), .val (.int (1 : Int32)), .val (.ref b108), .val (.ref b110), .val (.int (7 : Int32)), .val (.ref r121)] [(.int (1 : Int32))])
              refine Goes.step (fun _ k => XS.ifNo X127.here hx rfl (hb hby at_287) rfl ((if0 _ _).trans (feq (by decide : ¬ ((1 : Int32) = (0 : Int32)))).1) k) ?_
              show Goes p e below s _ _ _ T127 (mkF m 290 #[.val (.int p1), .val (.int p2), .val (.int p3), .val (.int p4), .val (.int p5), .val (.int (Int32.ofNat n)), .val (.int (1 : Int32)), .val (.int (1 : Int32)), .val (.int (1 : Int32)), .val (.ref b108), .val (.ref b110), .val (.int (7 : Int32)), .val (.ref r121)] [])
              refine Goes.step (fun _ k => XS.aload X127.here hx rfl (hb hby at_290) rfl rfl k) ?_
              show Goes p e below s _ _ _ T127 (mkF m 292 #[.val (.int p1), .val (.int p2), .val (.int p3), .val (.int p4), .val (.int p5), .val (.int (Int32.ofNat n)), .val (.int (1 : Int32)), .val (.int (1 : Int32)), .val (.int (1 : Int32)), .val (.ref b108), .val (.ref b110), .val (.int (7 : Int32)), .val (.ref r121)] [(.ref r121)])
              refine Goes.step (fun _ k => XS.aload X127.here hx rfl (hb hby at_292) rfl rfl k) ?_
              show Goes p e below s _ _ _ T127 (mkF m 294 #[.val (.int p1), .val (.int p2), .val (.int p3), .val (.int p4), .val (.int p5), .val (.int (Int32.ofNat n)), .val (.int (1 : Int32)), .val (.int (1 : Int32)), .val (.int (1 : Int32)), .val (.ref b108), .val (.ref b110), .val (.int (7 : Int32)), .val (.ref r121)] [(.ref b110), (.ref r121)])
              refine Goes.step (fun _ k => XS.iload X127.here hx rfl (hb hby at_294) rfl k) ?_
              show Goes p e below s _ _ _ T127 (mkF m 296 #[.val (.int p1), .val (.int p2), .val (.int p3), .val (.int p4), .val (.int p5), .val (.int (Int32.ofNat n)), .val (.int (1 : Int32)), .val (.int (1 : Int32)), .val (.int (1 : Int32)), .val (.ref b108), .val (.ref b110), .val (.int (7 : Int32)), .val (.ref r121)] [(.int (7 : Int32)), (.ref b110), (.ref r121)])
              refine Goes.step (fun _ k => XS.bipush X127.here hx rfl (hb hby at_296) k) ?_
              show Goes p e below s _ _ _ T127 (mkF m 298 #[.val (.int p1), .val (.int p2), .val (.int p3), .val (.int p4), .val (.int p5), .val (.int (Int32.ofNat n)), .val (.int (1 : Int32)), .val (.int (1 : Int32)), .val (.int (1 : Int32)), .val (.ref b108), .val (.ref b110), .val (.int (7 : Int32)), .val (.ref r121)] [(.int (6 : Int32)), (.int (7 : Int32)), (.ref b110), (.ref r121)])
              obtain ⟨T128, X128, e128, st128⟩ := callPure X127 hx hZ (y := (⟨"com/example/proxysmith/proxysmith/BytesToByteArrayPinLaw", "same", "([B[BII)Z"⟩ : MethodName)) hown (hw _ (List.mem_of_getElem? (i := 48) rfl)) (hw _ (List.mem_of_getElem? (i := 49) rfl)) (hw _ (List.mem_of_getElem? (i := 50) rfl)) (hw _ (List.mem_of_getElem? (i := 51) rfl)) (by decide) (W := 0) (argsL := [(.ref r121), (.ref b110), (.int (7 : Int32)), (.int (6 : Int32))]) (rest := []) (r := (.int (1 : Int32))) (fun _ _ _ q => q) (rm10b l Z a0 hw [] r121 b110 (7 : Int32) (6 : Int32) 6 7 7 g121 (updI (updI (updI (updI (updI (updI (updI (fun _ => 0) (0) ((p3.toInt8.toInt32).toInt8.toInt32)) (1) ((((p4.toUInt32 >>> ((8 : Int32) &&& 31).toUInt32).toInt32).toInt8.toInt32).toInt8.toInt32)) (2) ((p4.toInt8.toInt32).toInt8.toInt32)) (3) ((((p5.toUInt32 >>> ((24 : Int32) &&& 31).toUInt32).toInt32).toInt8.toInt32).toInt8.toInt32)) (4) ((((p5.toUInt32 >>> ((16 : Int32) &&& 31).toUInt32).toInt32).toInt8.toInt32).toInt8.toInt32)) (5) ((((p5.toUInt32 >>> ((8 : Int32) &&& 31).toUInt32).toInt32).toInt8.toInt32).toInt8.toInt32)) (6) ((p5.toInt8.toInt32).toInt8.toInt32)) h121 n0 z_121 (by decide) rfl hA121 A_b110_121 (by decide) (by decide) ((hg121 6 (by omega)).trans (hy120.trans (own_BB _).symm))) (by decide) (by decide) (by decide) (by decide) e127 (g := (mkF m 298 #[.val (.int p1), .val (.int p2), .val (.int p3), .val (.int p4), .val (.int p5), .val (.int (Int32.ofNat n)), .val (.int (1 : Int32)), .val (.int (1 : Int32)), .val (.int (1 : Int32)), .val (.ref b108), .val (.ref b110), .val (.int (7 : Int32)), .val (.ref r121)] [(.int (6 : Int32)), (.int (7 : Int32)), (.ref b110), (.ref r121)])) rfl (by rw [hml]; rfl) (lenOf pd_0_2 rfl) rfl (by show 2 * 0 + _ ≤ _; exact Nat.le_of_eq rfl) (hb hby at_298)
              refine Goes.step st128 ?_
              show Goes p e below s _ _ _ T128 (mkF m 301 #[.val (.int p1), .val (.int p2), .val (.int p3), .val (.int p4), .val (.int p5), .val (.int (Int32.ofNat n)), .val (.int (1 : Int32)), .val (.int (1 : Int32)), .val (.int (1 : Int32)), .val (.ref b108), .val (.ref b110), .val (.int (7 : Int32)), .val (.ref r121)] [(.int (1 : Int32))])
              refine Goes.step (fun _ k => XS.ifNo X128.here hx rfl (hb hby at_301) rfl ((if0 _ _).trans (feq (by decide : ¬ ((1 : Int32) = (0 : Int32)))).1) k) ?_
              show Goes p e below s _ _ _ T128 (mkF m 304 #[.val (.int p1), .val (.int p2), .val (.int p3), .val (.int p4), .val (.int p5), .val (.int (Int32.ofNat n)), .val (.int (1 : Int32)), .val (.int (1 : Int32)), .val (.int (1 : Int32)), .val (.ref b108), .val (.ref b110), .val (.int (7 : Int32)), .val (.ref r121)] [])
              refine Goes.step (fun _ k => XS.iconst X128.here hx rfl (hb hby at_304) k) ?_
              show Goes p e below s _ _ _ T128 (mkF m 305 #[.val (.int p1), .val (.int p2), .val (.int p3), .val (.int p4), .val (.int p5), .val (.int (Int32.ofNat n)), .val (.int (1 : Int32)), .val (.int (1 : Int32)), .val (.int (1 : Int32)), .val (.ref b108), .val (.ref b110), .val (.int (7 : Int32)), .val (.ref r121)] [(.int (1 : Int32))])
              refine Goes.step (fun _ k => XS.goto X128.here hx rfl (pc0 := 305) (pc' := 309) rfl (hb hby at_305) (by decide) (by decide) k) ?_
              show Goes p e below s _ _ _ T128 (mkF m 309 #[.val (.int p1), .val (.int p2), .val (.int p3), .val (.int p4), .val (.int p5), .val (.int (Int32.ofNat n)), .val (.int (1 : Int32)), .val (.int (1 : Int32)), .val (.int (1 : Int32)), .val (.ref b108), .val (.ref b110), .val (.int (7 : Int32)), .val (.ref r121)] [(.int (1 : Int32))])
              exact Goes.outN X128 hx hlk (t := .boolean) Bd.returns (by simp) (hb hby at_309) ⟨rfl, N_121⟩ (by decide) (by decide)
set_option maxRecDepth 65536 in
set_option maxHeartbeats 40000000 in
theorem comes_1 {Post : Tables → Env → Array Value → State → Outcome → State → Prop} (hpost : ∀ tb e args s v u, (limb_1_1.after args s (.returned v) u = true ∧ limb_1_2.after args s (.returned v) u = true ∧ True) → FrameEnd s (.returned v) u (Jvm.fieldLocs frame_1_writes args s ++ Jvm.arrayLocs frame_1_arrays args s ++ Jvm.staticLocs frame_1_statics s) 24 192 → Post tb e args s (.returned v) u) :
    ArmFor flags0 classFile x code maxLocals ret World_1 tables_1 room_1 Calls_1 rest_1 Pre_1 Post := by
  intro l hfl _ _ p e ha hc hk s m args below hf hA hF happ hP
  obtain ⟨hcalls, hrest, hpre⟩ := hP
  obtain ⟨-, -, -, hnamed, -, -, -, hat⟩ := (Spec.applies_iff hf).mp happ
  obtain ⟨hg, hn⟩ := and_e (Cond.before_iff.mp (show (Jvm.Cond.and given_1 narrow_1).before args s = true from hpre))
  obtain ⟨hcnt, g0⟩ := and_e hg
  obtain ⟨i0, g1⟩ := and_e g0
  obtain ⟨i1, g2⟩ := and_e g1
  obtain ⟨i2, g3⟩ := and_e g2
  obtain ⟨i3, g4⟩ := and_e g3
  have i4 := g4
  obtain ⟨w0, w1, w2, w3, w4, rfl⟩ : ∃ w0 w1 w2 w3 w4 : Value, args = #[w0, w1, w2, w3, w4] := by
    have hs : args.size = 5 := by simpa [Cond.value, given_1] using hcnt
    obtain ⟨L⟩ := args
    match L, hs with
    | [w0, w1, w2, w3, w4], _ => exact ⟨w0, w1, w2, w3, w4, rfl⟩
  have hw := fun d (hd : d ∈ tables_1) => atoms_spec (ws := Jvm.Cond.code x code maxLocals ret :: tables_1) hat d (List.mem_cons_of_mem _ hd)
  obtain ⟨z0, e0⟩ := is_v i0
  obtain rfl : w0 = (.int z0) := Option.some.inj e0
  obtain ⟨z1, e1⟩ := is_v i1
  obtain rfl : w1 = (.int z1) := Option.some.inj e1
  obtain ⟨z2, e2⟩ := is_v i2
  obtain rfl : w2 = (.int z2) := Option.some.inj e2
  obtain ⟨z3, e3⟩ := is_v i3
  obtain rfl : w3 = (.int z3) := Option.some.inj e3
  obtain ⟨z4, e4⟩ := is_v i4
  obtain rfl : w4 = (.int z4) := Option.some.inj e4
  obtain ⟨n, o, h1, h2, h3, v, L, rfl, ⟨rfl, N⟩, hq⟩ := rm0 l s _ hw tables_1 z0 z1 z2 z3 z4  s.heap s.heap.size (Nat.le_refl _)  p e ha hc hk s m _ below hf ((Spec.applies_iff_loose hf).mp happ).1 ⟨rfl, State.Warmed39.refl s, rfl⟩ trivial
  refine ⟨n, _, h1, h2, h3, hpost _ _ _ _ _ _ ⟨Cond.after_iff.mpr rfl, Cond.after_iff.mpr (eq_i res_at (Term.int_eval (1)) rfl), trivial⟩ ⟨hq.1, hq.2.1, (hq.2.2.sift fun y hy => Or.inr (N y hy)).mono (by decide) (by decide)⟩⟩
theorem main_1_1 : Claimed_1_1 := comes_1 fun _ _ _ _ _ _ h hF => ⟨h.1, hF⟩
theorem main_1_2 : Claimed_1_2 := comes_1 fun _ _ _ _ _ _ h hF => ⟨h.2.1, hF⟩
end Jvm.Pilot.@@N@@
namespace Jvm.Pilot.@@N@@
open Jvm Jvm.ClassFile Sem Op Lib Jvm.Free Jvm.Stand Jvm.Pilot.@@N@@.Jvm.D
/-! MADE BY PROGRAM (witnessworld.py) out of the Statement's table words and the real class files: 10 classes; the members and pool entries that the words name. The judged class is class 1, her method 2. -/
namespace start1
open Jvm.ClassFile
def u (s : String) : CpInfo := .utf8 (stringToUtf16 s)
/-- a pool by its gaps: so many unusable entries, then the entry; so many at the end -/
def gap : Nat → List CpInfo → List CpInfo
  | 0, r => r
  | n + 1, r => .unusable :: gap n r
def poolList (es : List (Nat × CpInfo)) (last : Nat) : List CpInfo := es.foldr (fun e r => gap e.1 (e.2 :: r)) (gap last [])
def pool (es : List (Nat × CpInfo)) (last : Nat) : Array CpInfo := ⟨poolList es last⟩
def fileOf (pool : Array CpInfo) (this : Nat) (attrs : Array Attribute := #[]) (ms : Array MethodInfo := #[]) (fl : Nat := 33) (sup : Nat := 0) (ifs : Array Nat := #[]) (fds : Array FieldInfo := #[]) : ClassFile where
  minorVersion := 0
  majorVersion := 65
  constantPool := pool
  accessFlags := fl
  thisClass := this
  superClass := sup
  interfaces := ifs
  fields := fds
  methods := ms
  attributes := attrs
def plain (name : String) (sup : Option ClassId) : Class where
  name := name
  kind := .ordinary
  loader := none
  accessFlags := 33
  super := sup
  interfaces := #[]
  cf := none
  fields := #[]
  methods := #[]
  instanceTypes := #[]
  staticTypes := #[]
  resolved := #[]
  callSites := []
  init := .initialized
  statics := none
  mirror := none

def pool0 : Array CpInfo := pool [(5, u "<init>"), (0, u "()V"), (1, .class_ 10), (1, u "java/lang/Object")] 113

def k0c0 : Code := { maxStack := 0, maxLocals := 1, code := object_method_1_code, exceptionTable := #[], attributes := #[] }
def k0m0 : Method := { name := "<init>", desc := "()V", sig := { parameters := [], returnType := none }, accessFlags := 1, code := some k0c0 }
/-- java/lang/Object -/
def k0 : Class := { plain "java/lang/Object" none with
  accessFlags := 33
  interfaces := #[]
  cf := some (fileOf pool0 8 #[] #[{ accessFlags := 1, nameIndex := 5, descriptorIndex := 6, attributes := #[] }] 33 0 #[] #[])
  fields := #[]
  methods := #[k0m0]
  instanceTypes := #[]
  staticTypes := #[]
  resolved := Array.replicate 124 none
  statics := none }

def pool1 : Array CpInfo := pool [(2, .class_ 4), (1, u "java/lang/Object"), (0, u "<init>"), (0, u "()V"), (0, .class_ 8), (0, u "com/example/proxysmith/proxysmith/ClassFileWriter$Bytes"), (0, .methodref 7 10), (0, .nameAndType 5 11), (0, u "(I)V"), (0, .methodref 7 13), (0, .nameAndType 14 11), (0, u "u1"), (0, .methodref 7 16), (0, .nameAndType 17 11), (0, u "u2"), (0, .methodref 7 19), (0, .nameAndType 20 11), (0, u "u4"), (0, .methodref 7 22), (0, .nameAndType 23 24), (0, u "toByteArray"), (0, u "()[B"), (0, .methodref 26 27), (0, .class_ 28), (0, .nameAndType 29 30), (0, u "com/example/proxysmith/proxysmith/BytesToByteArrayPinLaw"), (0, u "same"), (0, u "([B[BII)Z"), (3, u "law"), (0, u "(IIIII)Z")] 8

def k1m0 : Method := { name := "<init>", desc := "()V", sig := { parameters := [], returnType := none }, accessFlags := 1, code := none }
def k1c1 : Code := { maxStack := 3, maxLocals := 4, code := method_2_code, exceptionTable := #[], attributes := #[] }
def k1m1 : Method := { name := "same", desc := "([B[BII)Z", sig := { parameters := [(.array .byte), (.array .byte), .int, .int], returnType := some .boolean }, accessFlags := 10, code := some k1c1 }
def k1c2 : Code := { maxStack := 4, maxLocals := 13, code := code, exceptionTable := #[], attributes := #[] }
def k1m2 : Method := { name := "law", desc := "(IIIII)Z", sig := { parameters := [.int, .int, .int, .int, .int], returnType := some .boolean }, accessFlags := 9, code := some k1c2 }
/-- com/example/proxysmith/proxysmith/BytesToByteArrayPinLaw -/
def k1 : Class := { plain "com/example/proxysmith/proxysmith/BytesToByteArrayPinLaw" (some 0) with
  accessFlags := 49
  interfaces := #[]
  cf := some (fileOf pool1 26 #[] #[{ accessFlags := 1, nameIndex := 5, descriptorIndex := 6, attributes := #[] }, { accessFlags := 10, nameIndex := 29, descriptorIndex := 30, attributes := #[] }, { accessFlags := 9, nameIndex := 34, descriptorIndex := 35, attributes := #[] }] 49 2 #[] #[])
  fields := #[]
  methods := #[k1m0, k1m1, k1m2]
  instanceTypes := #[]
  staticTypes := #[]
  resolved := Array.replicate 44 none
  statics := none }

def pool2 : Array CpInfo := pool [(1, .class_ 2), (0, u "com/example/proxysmith/proxysmith/ClassFileWriter"), (0, .methodref 4 5), (0, .class_ 6), (0, .nameAndType 7 8), (0, u "java/lang/Object"), (0, u "<init>"), (0, u "()V"), (0, .fieldref 10 11), (0, .class_ 12), (0, .nameAndType 13 14), (0, u "com/example/proxysmith/proxysmith/ClassFileWriter$Bytes"), (0, u "bytes"), (0, u "[B"), (0, .methodref 10 16), (0, .nameAndType 17 18), (0, u "room"), (0, u "(I)V"), (0, .fieldref 10 20), (0, .nameAndType 21 22), (0, u "size"), (0, u "I"), (0, .methodref 10 24), (0, .nameAndType 25 18), (0, u "u2"), (30, .methodref 57 58), (0, .class_ 59), (0, .nameAndType 60 61), (0, u "java/util/Arrays"), (0, u "copyOf"), (0, u "([BI)[B"), (0, .methodref 63 64), (0, .class_ 65), (0, .nameAndType 66 67), (0, u "java/lang/Math"), (0, u "max"), (0, u "(II)I"), (2, u "u1"), (0, u "u4"), (6, u "toByteArray"), (0, u "()[B")] 21

def k2c0 : Code := { maxStack := 2, maxLocals := 2, code := prog_13_method_1_code, exceptionTable := #[], attributes := #[] }
def k2m0 : Method := { name := "<init>", desc := "(I)V", sig := { parameters := [.int], returnType := none }, accessFlags := 0, code := some k2c0 }
def k2c1 : Code := { maxStack := 5, maxLocals := 2, code := prog_13_method_2_code, exceptionTable := #[], attributes := #[] }
def k2m1 : Method := { name := "u1", desc := "(I)V", sig := { parameters := [.int], returnType := none }, accessFlags := 0, code := some k2c1 }
def k2c2 : Code := { maxStack := 5, maxLocals := 2, code := prog_13_method_3_code, exceptionTable := #[], attributes := #[] }
def k2m2 : Method := { name := "u2", desc := "(I)V", sig := { parameters := [.int], returnType := none }, accessFlags := 0, code := some k2c2 }
def k2c3 : Code := { maxStack := 3, maxLocals := 2, code := prog_13_method_4_code, exceptionTable := #[], attributes := #[] }
def k2m3 : Method := { name := "u4", desc := "(I)V", sig := { parameters := [.int], returnType := none }, accessFlags := 0, code := some k2c3 }
def k2c4 : Code := { maxStack := 2, maxLocals := 1, code := prog_13_method_10_code, exceptionTable := #[], attributes := #[] }
def k2m4 : Method := { name := "toByteArray", desc := "()[B", sig := { parameters := [], returnType := some (.array .byte) }, accessFlags := 0, code := some k2c4 }
def k2c5 : Code := { maxStack := 5, maxLocals := 2, code := prog_13_method_11_code, exceptionTable := #[], attributes := #[] }
def k2m5 : Method := { name := "room", desc := "(I)V", sig := { parameters := [.int], returnType := none }, accessFlags := 2, code := some k2c5 }
/-- com/example/proxysmith/proxysmith/ClassFileWriter$Bytes -/
def k2 : Class := { plain "com/example/proxysmith/proxysmith/ClassFileWriter$Bytes" (some 0) with
  accessFlags := 48
  interfaces := #[]
  cf := some (fileOf pool2 10 #[.nestHost 1] #[{ accessFlags := 0, nameIndex := 7, descriptorIndex := 18, attributes := #[] }, { accessFlags := 0, nameIndex := 70, descriptorIndex := 18, attributes := #[] }, { accessFlags := 0, nameIndex := 25, descriptorIndex := 18, attributes := #[] }, { accessFlags := 0, nameIndex := 71, descriptorIndex := 18, attributes := #[] }, { accessFlags := 0, nameIndex := 78, descriptorIndex := 79, attributes := #[] }, { accessFlags := 2, nameIndex := 17, descriptorIndex := 18, attributes := #[] }] 48 4 #[] #[{ accessFlags := 2, nameIndex := 13, descriptorIndex := 14, attributes := #[] }, { accessFlags := 2, nameIndex := 21, descriptorIndex := 22, attributes := #[] }])
  fields := #[{ name := "bytes", type := (.array .byte), accessFlags := 2, slot := 0, constantValue := 0 }, { name := "size", type := .int, accessFlags := 2, slot := 1, constantValue := 0 }]
  methods := #[k2m0, k2m1, k2m2, k2m3, k2m4, k2m5]
  instanceTypes := #[(.array .byte), .int]
  staticTypes := #[]
  resolved := Array.replicate 101 none
  statics := none }

def pool3 : Array CpInfo := pool [(1, .class_ 2), (0, u "java/lang/Math"), (1, .class_ 6), (1, u "java/lang/Object"), (0, u "<init>"), (0, u "()V"), (89, .class_ 100), (1, u "java/lang/Math$RandomNumberGeneratorHolder"), (71, u "negativeZeroFloatBits"), (0, u "J"), (2, u "negativeZeroDoubleBits"), (21, u "max"), (2, u "min"), (43, u "$assertionsDisabled"), (0, u "Z"), (88, u "(II)I"), (2, u "twoToTheDoubleScaleDown"), (0, u "D"), (4, u "twoToTheDoubleScaleUp"), (9, u "E"), (3, u "PI"), (2, u "TAU"), (2, u "DEGREES_TO_RADIANS"), (0, u "RADIANS_TO_DEGREES")] 94

def k3m0 : Method := { name := "<init>", desc := "()V", sig := { parameters := [], returnType := none }, accessFlags := 2, code := none }
def k3c1 : Code := { maxStack := 2, maxLocals := 2, code := jdk_29_method_65_code, exceptionTable := #[], attributes := #[] }
def k3m1 : Method := { name := "max", desc := "(II)I", sig := { parameters := [.int, .int], returnType := some .int }, accessFlags := 9, code := some k3c1 }
def k3c2 : Code := { maxStack := 2, maxLocals := 2, code := jdk_29_method_69_code, exceptionTable := #[], attributes := #[] }
def k3m2 : Method := { name := "min", desc := "(II)I", sig := { parameters := [.int, .int], returnType := some .int }, accessFlags := 9, code := some k3c2 }
/-- java/lang/Math -/
def k3 : Class := { plain "java/lang/Math" (some 0) with
  accessFlags := 49
  interfaces := #[]
  cf := some (fileOf pool3 1 #[.nestMembers #[98]] #[{ accessFlags := 2, nameIndex := 7, descriptorIndex := 8, attributes := #[] }, { accessFlags := 9, nameIndex := 198, descriptorIndex := 335, attributes := #[] }, { accessFlags := 9, nameIndex := 201, descriptorIndex := 335, attributes := #[] }] 49 4 #[] #[{ accessFlags := 25, nameIndex := 354, descriptorIndex := 339, attributes := #[] }, { accessFlags := 25, nameIndex := 358, descriptorIndex := 339, attributes := #[] }, { accessFlags := 25, nameIndex := 361, descriptorIndex := 339, attributes := #[] }, { accessFlags := 26, nameIndex := 364, descriptorIndex := 339, attributes := #[] }, { accessFlags := 26, nameIndex := 365, descriptorIndex := 339, attributes := #[] }, { accessFlags := 26, nameIndex := 172, descriptorIndex := 173, attributes := #[] }, { accessFlags := 26, nameIndex := 176, descriptorIndex := 173, attributes := #[] }, { accessFlags := 8, nameIndex := 344, descriptorIndex := 339, attributes := #[] }, { accessFlags := 8, nameIndex := 338, descriptorIndex := 339, attributes := #[] }, { accessFlags := 4120, nameIndex := 245, descriptorIndex := 246, attributes := #[] }])
  fields := #[{ name := "E", type := .double, accessFlags := 25, slot := 0, constantValue := 0 }, { name := "PI", type := .double, accessFlags := 25, slot := 1, constantValue := 0 }, { name := "TAU", type := .double, accessFlags := 25, slot := 2, constantValue := 0 }, { name := "DEGREES_TO_RADIANS", type := .double, accessFlags := 26, slot := 3, constantValue := 0 }, { name := "RADIANS_TO_DEGREES", type := .double, accessFlags := 26, slot := 4, constantValue := 0 }, { name := "negativeZeroFloatBits", type := .long, accessFlags := 26, slot := 5, constantValue := 0 }, { name := "negativeZeroDoubleBits", type := .long, accessFlags := 26, slot := 6, constantValue := 0 }, { name := "twoToTheDoubleScaleUp", type := .double, accessFlags := 8, slot := 7, constantValue := 0 }, { name := "twoToTheDoubleScaleDown", type := .double, accessFlags := 8, slot := 8, constantValue := 0 }, { name := "$assertionsDisabled", type := .boolean, accessFlags := 4120, slot := 9, constantValue := 0 }]
  methods := #[k3m0, k3m1, k3m2]
  instanceTypes := #[]
  staticTypes := #[.double, .double, .double, .double, .double, .long, .long, .double, .double, .boolean]
  resolved := Array.replicate 460 none
  statics := none }

def pool4 : Array CpInfo := pool [(2, .class_ 4), (1, u "java/lang/Object"), (0, u "<init>"), (0, u "()V"), (7, .class_ 16), (1, u "java/util/Arrays"), (57, .class_ 76), (1, u "java/util/Arrays$NaturalOrder"), (36, .class_ 115), (1, u "java/util/Arrays$LegacyMergeSort"), (1, u "Z"), (32, .methodref 151 152), (0, .class_ 153), (0, .nameAndType 154 155), (0, u "java/lang/System"), (0, u "arraycopy"), (0, u "(Ljava/lang/Object;ILjava/lang/Object;II)V"), (146, u "copyOf"), (1, .methodref 305 306), (0, .class_ 307), (0, .nameAndType 308 309), (0, u "java/lang/Math"), (0, u "min"), (0, u "(II)I"), (65, .class_ 376), (0, u "java/util/Arrays$ArrayList"), (68, u "$assertionsDisabled"), (269, u "MIN_ARRAY_SORT_GRAN"), (0, u "I"), (2, u "INSERTIONSORT_THRESHOLD"), (149, u "([BI)[B"), (105, .class_ 976), (0, u "java/util/Arrays$ArrayItr")] 52

def k4m0 : Method := { name := "<init>", desc := "()V", sig := { parameters := [], returnType := none }, accessFlags := 2, code := none }
def k4c1 : Code := { maxStack := 6, maxLocals := 3, code := jdk_65_method_121_code, exceptionTable := #[], attributes := #[] }
def k4m1 : Method := { name := "copyOf", desc := "([BI)[B", sig := { parameters := [(.array .byte), .int], returnType := some (.array .byte) }, accessFlags := 9, code := some k4c1 }
/-- java/util/Arrays -/
def k4 : Class := { plain "java/util/Arrays" (some 0) with
  accessFlags := 49
  interfaces := #[]
  cf := some (fileOf pool4 14 #[.nestMembers #[975, 375, 113, 74]] #[{ accessFlags := 2, nameIndex := 5, descriptorIndex := 6, attributes := #[] }, { accessFlags := 9, nameIndex := 302, descriptorIndex := 869, attributes := #[] }] 49 2 #[] #[{ accessFlags := 26, nameIndex := 715, descriptorIndex := 716, attributes := #[] }, { accessFlags := 26, nameIndex := 719, descriptorIndex := 716, attributes := #[] }, { accessFlags := 4120, nameIndex := 445, descriptorIndex := 117, attributes := #[] }])
  fields := #[{ name := "MIN_ARRAY_SORT_GRAN", type := .int, accessFlags := 26, slot := 0, constantValue := 0 }, { name := "INSERTIONSORT_THRESHOLD", type := .int, accessFlags := 26, slot := 1, constantValue := 0 }, { name := "$assertionsDisabled", type := .boolean, accessFlags := 4120, slot := 2, constantValue := 0 }]
  methods := #[k4m0, k4m1]
  instanceTypes := #[]
  staticTypes := #[.int, .int, .boolean]
  resolved := Array.replicate 1029 none
  statics := none }

def pool5 : Array CpInfo := pool [(2, .class_ 4), (1, u "java/lang/Object"), (0, u "<init>"), (0, u "()V"), (1, .class_ 10), (1, u "java/lang/System"), (0, u "allowSecurityManager"), (0, u "I"), (16, u "cons"), (0, u "Ljava/io/Console;"), (77, .class_ 110), (1, u "java/lang/System$CallersHolder"), (43, u "initialErrStream"), (0, u "Ljava/io/PrintStream;"), (19, u "security"), (0, u "Ljava/lang/SecurityManager;"), (31, .class_ 209), (0, u "java/lang/System$1"), (7, u "props"), (0, u "Ljava/util/Properties;"), (2, u "lineSeparator"), (0, u "Ljava/lang/String;"), (96, .class_ 321), (1, u "java/lang/System$LoggerFinder"), (5, .class_ 328), (0, u "java/lang/System$Logger"), (67, u "err"), (2, u "out"), (91, u "notSupportedJnuEncoding"), (15, u "in"), (17, u "initialIn"), (0, u "Ljava/io/InputStream;"), (35, u "bootLayer"), (0, u "Ljava/lang/ModuleLayer;"), (99, .class_ 664), (0, u "java/lang/System$2"), (9, u "NEVER"), (2, u "MAYBE"), (49, u "arraycopy"), (0, u "(Ljava/lang/Object;ILjava/lang/Object;II)V"), (72, .class_ 802), (0, u "java/lang/System$Logger$Level")] 31

def k5m0 : Method := { name := "<init>", desc := "()V", sig := { parameters := [], returnType := none }, accessFlags := 2, code := none }
def k5m1 : Method := { name := "arraycopy", desc := "(Ljava/lang/Object;ILjava/lang/Object;II)V", sig := { parameters := [(.object "java/lang/Object"), .int, (.object "java/lang/Object"), .int, .int], returnType := none }, accessFlags := 265, code := none }
/-- java/lang/System -/
def k5 : Class := { plain "java/lang/System" (some 0) with
  accessFlags := 49
  interfaces := #[]
  cf := some (fileOf pool5 8 #[.nestMembers #[319, 327, 801, 108, 663, 208]] #[{ accessFlags := 2, nameIndex := 5, descriptorIndex := 6, attributes := #[] }, { accessFlags := 265, nameIndex := 727, descriptorIndex := 728, attributes := #[] }] 49 2 #[] #[{ accessFlags := 25, nameIndex := 507, descriptorIndex := 526, attributes := #[] }, { accessFlags := 25, nameIndex := 399, descriptorIndex := 155, attributes := #[] }, { accessFlags := 25, nameIndex := 396, descriptorIndex := 155, attributes := #[] }, { accessFlags := 10, nameIndex := 525, descriptorIndex := 526, attributes := #[] }, { accessFlags := 26, nameIndex := 674, descriptorIndex := 12, attributes := #[] }, { accessFlags := 26, nameIndex := 677, descriptorIndex := 12, attributes := #[] }, { accessFlags := 10, nameIndex := 11, descriptorIndex := 12, attributes := #[] }, { accessFlags := 74, nameIndex := 175, descriptorIndex := 176, attributes := #[] }, { accessFlags := 10, nameIndex := 491, descriptorIndex := 222, attributes := #[] }, { accessFlags := 74, nameIndex := 29, descriptorIndex := 30, attributes := #[] }, { accessFlags := 74, nameIndex := 154, descriptorIndex := 155, attributes := #[] }, { accessFlags := 10, nameIndex := 217, descriptorIndex := 218, attributes := #[] }, { accessFlags := 10, nameIndex := 221, descriptorIndex := 222, attributes := #[] }, { accessFlags := 8, nameIndex := 562, descriptorIndex := 563, attributes := #[] }])
  fields := #[{ name := "in", type := (.object "java/io/InputStream"), accessFlags := 25, slot := 0, constantValue := 0 }, { name := "out", type := (.object "java/io/PrintStream"), accessFlags := 25, slot := 1, constantValue := 0 }, { name := "err", type := (.object "java/io/PrintStream"), accessFlags := 25, slot := 2, constantValue := 0 }, { name := "initialIn", type := (.object "java/io/InputStream"), accessFlags := 10, slot := 3, constantValue := 0 }, { name := "NEVER", type := .int, accessFlags := 26, slot := 4, constantValue := 0 }, { name := "MAYBE", type := .int, accessFlags := 26, slot := 5, constantValue := 0 }, { name := "allowSecurityManager", type := .int, accessFlags := 10, slot := 6, constantValue := 0 }, { name := "security", type := (.object "java/lang/SecurityManager"), accessFlags := 74, slot := 7, constantValue := 0 }, { name := "notSupportedJnuEncoding", type := (.object "java/lang/String"), accessFlags := 10, slot := 8, constantValue := 0 }, { name := "cons", type := (.object "java/io/Console"), accessFlags := 74, slot := 9, constantValue := 0 }, { name := "initialErrStream", type := (.object "java/io/PrintStream"), accessFlags := 74, slot := 10, constantValue := 0 }, { name := "props", type := (.object "java/util/Properties"), accessFlags := 10, slot := 11, constantValue := 0 }, { name := "lineSeparator", type := (.object "java/lang/String"), accessFlags := 10, slot := 12, constantValue := 0 }, { name := "bootLayer", type := (.object "java/lang/ModuleLayer"), accessFlags := 8, slot := 13, constantValue := 0 }]
  methods := #[k5m0, k5m1]
  instanceTypes := #[]
  staticTypes := #[(.object "java/io/InputStream"), (.object "java/io/PrintStream"), (.object "java/io/PrintStream"), (.object "java/io/InputStream"), .int, .int, .int, (.object "java/lang/SecurityManager"), (.object "java/lang/String"), (.object "java/io/Console"), (.object "java/io/PrintStream"), (.object "java/util/Properties"), (.object "java/lang/String"), (.object "java/lang/ModuleLayer")]
  resolved := Array.replicate 834 none
  statics := none }

def pool6 : Array CpInfo := pool [(1, u "java/lang/Cloneable"), (0, .class_ 1), (0, u "java/lang/Object"), (0, .class_ 3)] 3

/-- java/lang/Cloneable -/
def k6 : Class := { plain "java/lang/Cloneable" (some 0) with
  accessFlags := 1537
  interfaces := #[]
  cf := some (fileOf pool6 2 #[] #[] 1537 4 #[] #[])
  fields := #[]
  methods := #[]
  instanceTypes := #[]
  staticTypes := #[]
  resolved := Array.replicate 8 none
  statics := none }

def pool7 : Array CpInfo := pool [(1, u "java/io/Serializable"), (0, .class_ 1), (0, u "java/lang/Object"), (0, .class_ 3)] 3

/-- java/io/Serializable -/
def k7 : Class := { plain "java/io/Serializable" (some 0) with
  accessFlags := 1537
  interfaces := #[]
  cf := some (fileOf pool7 2 #[] #[] 1537 4 #[] #[])
  fields := #[]
  methods := #[]
  instanceTypes := #[]
  staticTypes := #[]
  resolved := Array.replicate 8 none
  statics := none }

/-- the primitive byte -/
def k8 : Class := { plain "byte" none with kind := .primitive 'B', accessFlags := 0x411 }
/-- [B -/
def k9 : Class := { plain "[B" (some 0) with kind := .array 8 .byte, interfaces := #[6, 7], accessFlags := 1041 }

def heap : Heap := #[]
def classes : Array Class := #[k0, k1, k2, k3, k4, k5, k6, k7, k8, k9]
def interned : List (Array UInt16 × Addr) := []
def slotsUsed : Nat := 0
def theMethod : MethodId := ⟨1, 2⟩
def args0 : Array Value := #[.int 3, .int 5, .int (-4), .int 1, .int 7]
def aboutOver (below : List Frame) : State where
  vm := { classes := classes, interned := interned.toArray }
  heap := heap
  slotsUsed := slotsUsed
  threads := #[{ frames := .invoking theMethod args0 :: below }]
def below0 : List Frame := [.native { method := ⟨0, 0⟩, args := #[] }]
def about1 : State := aboutOver below0
def p0 : Program := .bare "" "" ""
def e0 : Env := launch0.env 0 0 0
theorem w_frames : about1.frames = Frame.invoking theMethod args0 :: below0 := rfl
set_option maxRecDepth 65536 in
theorem w_args : argsFit about1.vm theMethod args0 = true := by decide +kernel
set_option maxRecDepth 65536 in
theorem w_heap : heapFits about1 = true := by decide +kernel
set_option maxRecDepth 65536 in
theorem w_runnable : about1.curStatus? = some .runnable := by decide +kernel
set_option maxRecDepth 65536 in
theorem w_alone : about1.alone = true := by decide +kernel
set_option maxRecDepth 65536 in
theorem w_named : about1.methodNamed? x = some theMethod := by decide +kernel
set_option maxRecDepth 65536 in
theorem w_hears : about1.hears theMethod below0 = true := by decide +kernel
set_option maxRecDepth 65536 in
theorem w_ripe : about1.ripe theMethod args0 below0 = true := by decide +kernel
theorem w_running : about1.status = .running := rfl
set_option maxRecDepth 65536 in
theorem w_room : about1.hasRoom e0.platform room_1 = true :=
  launch0.hasRoom_least _ room_1 (by decide +kernel) (by decide +kernel) (by decide +kernel) (by decide +kernel) (by decide +kernel) (by decide +kernel)
theorem allAtoms_all (ts : List Jvm.Cond) (a : Array Jvm.Value) (st : Jvm.State) : (allAtoms ts).before a st = ts.all (fun c => c.before a st) := by
  induction ts with
  | nil => rfl
  | cons c t ih =>
    show (Jvm.Cond.and c (allAtoms t)).before a st = _
    rw [Jvm.Cond.before_and, ih, List.all_cons]
def words1 : List Jvm.Cond := Jvm.Cond.code x code maxLocals ret :: tables_1
/-- a 'code' word, met by the world's own term for the bytes: nothing is compared byte by byte -/
theorem code_word {y : MethodName} {bytes : ByteArray} {mx : Nat} {rt : Option FieldType} {a : Array Value} {s : State} {m : MethodId} {meth : Method} {c : Code} (h1 : s.methodNamed? y = some m) (h2 : s.vm.method? m = some meth) (h3 : meth.code = some c) (h4 : c.code = bytes)
    (h5 : (c.maxLocals == mx && c.exceptionTable.isEmpty && decide (c.maxStack ≤ mostOperands) && decide (meth.sig.returnType = rt) && !meth.locks && decide (parseMethodDescriptor y.desc = some meth.sig)) = true) : (Jvm.Cond.code y bytes mx rt).before a s = true := by
  simp only [Bool.and_eq_true, beq_iff_eq, Bool.not_eq_true', decide_eq_true_eq] at h5
  obtain ⟨⟨⟨⟨⟨g1, g2⟩, g3⟩, g4⟩, g5⟩, g6⟩ := h5
  simp [Cond.before, Cond.holds, Cond.value, h1, h2, h3, h4, g1, g2, g3, g4, g5, g6]
def isCode : Jvm.Cond → Bool
  | .code _ _ _ _ => true
  | _ => false
theorem all_split {L : List Jvm.Cond} {P : Jvm.Cond → Bool} (h1 : L.all (fun c => isCode c || P c) = true) (h2 : ∀ c ∈ L.filter isCode, P c = true) : L.all P = true := by
  refine List.all_eq_true.mpr fun c hc => ?_
  have h := List.all_eq_true.mp h1 c hc
  rcases Bool.eq_false_or_eq_true (isCode c) with hi | hi
  · exact h2 c (List.mem_filter.mpr ⟨hc, hi⟩)
  · simpa [hi] using h
set_option maxRecDepth 65536 in
theorem w_c0 : (Jvm.Cond.code x code maxLocals ret).before args0 about1 = true := code_word (m := ⟨1, 2⟩) (meth := k1m2) (c := k1c2) (by decide +kernel) rfl rfl rfl (by decide +kernel)
set_option maxRecDepth 65536 in
theorem w_c1 : (Jvm.Cond.code ({ cls := "com/example/proxysmith/proxysmith/ClassFileWriter$Bytes", name := "<init>", desc := "(I)V" } : Jvm.MethodName) prog_13_method_1_code (2 : Nat) (Option.none : Option Jvm.ClassFile.FieldType)).before args0 about1 = true := code_word (m := ⟨2, 0⟩) (meth := k2m0) (c := k2c0) (by decide +kernel) rfl rfl rfl (by decide +kernel)
set_option maxRecDepth 65536 in
theorem w_c2 : (Jvm.Cond.code ({ cls := "java/lang/Object", name := "<init>", desc := "()V" } : Jvm.MethodName) object_method_1_code (1 : Nat) (Option.none : Option Jvm.ClassFile.FieldType)).before args0 about1 = true := code_word (m := ⟨0, 0⟩) (meth := k0m0) (c := k0c0) (by decide +kernel) rfl rfl rfl (by decide +kernel)
set_option maxRecDepth 65536 in
theorem w_c3 : (Jvm.Cond.code ({ cls := "com/example/proxysmith/proxysmith/ClassFileWriter$Bytes", name := "u1", desc := "(I)V" } : Jvm.MethodName) prog_13_method_2_code (2 : Nat) (Option.none : Option Jvm.ClassFile.FieldType)).before args0 about1 = true := code_word (m := ⟨2, 1⟩) (meth := k2m1) (c := k2c1) (by decide +kernel) rfl rfl rfl (by decide +kernel)
set_option maxRecDepth 65536 in
theorem w_c4 : (Jvm.Cond.code ({ cls := "com/example/proxysmith/proxysmith/ClassFileWriter$Bytes", name := "room", desc := "(I)V" } : Jvm.MethodName) prog_13_method_11_code (2 : Nat) (Option.none : Option Jvm.ClassFile.FieldType)).before args0 about1 = true := code_word (m := ⟨2, 5⟩) (meth := k2m5) (c := k2c5) (by decide +kernel) rfl rfl rfl (by decide +kernel)
set_option maxRecDepth 65536 in
theorem w_c5 : (Jvm.Cond.code ({ cls := "java/lang/Math", name := "max", desc := "(II)I" } : Jvm.MethodName) jdk_29_method_65_code (2 : Nat) (Option.some Jvm.ClassFile.FieldType.int)).before args0 about1 = true := code_word (m := ⟨3, 1⟩) (meth := k3m1) (c := k3c1) (by decide +kernel) rfl rfl rfl (by decide +kernel)
set_option maxRecDepth 65536 in
theorem w_c6 : (Jvm.Cond.code ({ cls := "java/util/Arrays", name := "copyOf", desc := "([BI)[B" } : Jvm.MethodName) jdk_65_method_121_code (3 : Nat) (Option.some (Jvm.ClassFile.FieldType.array Jvm.ClassFile.FieldType.byte))).before args0 about1 = true := code_word (m := ⟨4, 1⟩) (meth := k4m1) (c := k4c1) (by decide +kernel) rfl rfl rfl (by decide +kernel)
set_option maxRecDepth 65536 in
theorem w_c7 : (Jvm.Cond.code ({ cls := "java/lang/Math", name := "min", desc := "(II)I" } : Jvm.MethodName) jdk_29_method_69_code (2 : Nat) (Option.some Jvm.ClassFile.FieldType.int)).before args0 about1 = true := code_word (m := ⟨3, 2⟩) (meth := k3m2) (c := k3c2) (by decide +kernel) rfl rfl rfl (by decide +kernel)
set_option maxRecDepth 65536 in
theorem w_c8 : (Jvm.Cond.code ({ cls := "com/example/proxysmith/proxysmith/ClassFileWriter$Bytes", name := "u2", desc := "(I)V" } : Jvm.MethodName) prog_13_method_3_code (2 : Nat) (Option.none : Option Jvm.ClassFile.FieldType)).before args0 about1 = true := code_word (m := ⟨2, 2⟩) (meth := k2m2) (c := k2c2) (by decide +kernel) rfl rfl rfl (by decide +kernel)
set_option maxRecDepth 65536 in
theorem w_c9 : (Jvm.Cond.code ({ cls := "com/example/proxysmith/proxysmith/ClassFileWriter$Bytes", name := "toByteArray", desc := "()[B" } : Jvm.MethodName) prog_13_method_10_code (1 : Nat) (Option.some (Jvm.ClassFile.FieldType.array Jvm.ClassFile.FieldType.byte))).before args0 about1 = true := code_word (m := ⟨2, 4⟩) (meth := k2m4) (c := k2c4) (by decide +kernel) rfl rfl rfl (by decide +kernel)
set_option maxRecDepth 65536 in
theorem w_c10 : (Jvm.Cond.code ({ cls := "com/example/proxysmith/proxysmith/BytesToByteArrayPinLaw", name := "same", desc := "([B[BII)Z" } : Jvm.MethodName) method_2_code (4 : Nat) (Option.some Jvm.ClassFile.FieldType.boolean)).before args0 about1 = true := code_word (m := ⟨1, 1⟩) (meth := k1m1) (c := k1c1) (by decide +kernel) rfl rfl rfl (by decide +kernel)
set_option maxRecDepth 65536 in
theorem w_c11 : (Jvm.Cond.code ({ cls := "com/example/proxysmith/proxysmith/ClassFileWriter$Bytes", name := "u4", desc := "(I)V" } : Jvm.MethodName) prog_13_method_4_code (2 : Nat) (Option.none : Option Jvm.ClassFile.FieldType)).before args0 about1 = true := code_word (m := ⟨2, 3⟩) (meth := k2m3) (c := k2c3) (by decide +kernel) rfl rfl rfl (by decide +kernel)
def codes1 : List Jvm.Cond := [Jvm.Cond.code x code maxLocals ret, Jvm.Cond.code ({ cls := "com/example/proxysmith/proxysmith/ClassFileWriter$Bytes", name := "<init>", desc := "(I)V" } : Jvm.MethodName) prog_13_method_1_code (2 : Nat) (Option.none : Option Jvm.ClassFile.FieldType), Jvm.Cond.code ({ cls := "java/lang/Object", name := "<init>", desc := "()V" } : Jvm.MethodName) object_method_1_code (1 : Nat) (Option.none : Option Jvm.ClassFile.FieldType), Jvm.Cond.code ({ cls := "com/example/proxysmith/proxysmith/ClassFileWriter$Bytes", name := "u1", desc := "(I)V" } : Jvm.MethodName) prog_13_method_2_code (2 : Nat) (Option.none : Option Jvm.ClassFile.FieldType), Jvm.Cond.code ({ cls := "com/example/proxysmith/proxysmith/ClassFileWriter$Bytes", name := "room", desc := "(I)V" } : Jvm.MethodName) prog_13_method_11_code (2 : Nat) (Option.none : Option Jvm.ClassFile.FieldType), Jvm.Cond.code ({ cls := "java/lang/Math", name := "max", desc := "(II)I" } : Jvm.MethodName) jdk_29_method_65_code (2 : Nat) (Option.some Jvm.ClassFile.FieldType.int), Jvm.Cond.code ({ cls := "java/util/Arrays", name := "copyOf", desc := "([BI)[B" } : Jvm.MethodName) jdk_65_method_121_code (3 : Nat) (Option.some (Jvm.ClassFile.FieldType.array Jvm.ClassFile.FieldType.byte)), Jvm.Cond.code ({ cls := "java/lang/Math", name := "min", desc := "(II)I" } : Jvm.MethodName) jdk_29_method_69_code (2 : Nat) (Option.some Jvm.ClassFile.FieldType.int), Jvm.Cond.code ({ cls := "com/example/proxysmith/proxysmith/ClassFileWriter$Bytes", name := "u2", desc := "(I)V" } : Jvm.MethodName) prog_13_method_3_code (2 : Nat) (Option.none : Option Jvm.ClassFile.FieldType), Jvm.Cond.code ({ cls := "com/example/proxysmith/proxysmith/ClassFileWriter$Bytes", name := "toByteArray", desc := "()[B" } : Jvm.MethodName) prog_13_method_10_code (1 : Nat) (Option.some (Jvm.ClassFile.FieldType.array Jvm.ClassFile.FieldType.byte)), Jvm.Cond.code ({ cls := "com/example/proxysmith/proxysmith/BytesToByteArrayPinLaw", name := "same", desc := "([B[BII)Z" } : Jvm.MethodName) method_2_code (4 : Nat) (Option.some Jvm.ClassFile.FieldType.boolean), Jvm.Cond.code ({ cls := "com/example/proxysmith/proxysmith/ClassFileWriter$Bytes", name := "u4", desc := "(I)V" } : Jvm.MethodName) prog_13_method_4_code (2 : Nat) (Option.none : Option Jvm.ClassFile.FieldType)]
set_option maxRecDepth 65536 in
theorem codes_eq : words1.filter isCode = codes1 := rfl
theorem w_codes : ∀ c ∈ words1.filter isCode, c.before args0 about1 = true := by
  rw [codes_eq]
  intro c hc
  simp only [codes1, List.mem_cons, List.not_mem_nil, or_false] at hc
  rcases hc with rfl | rfl | rfl | rfl | rfl | rfl | rfl | rfl | rfl | rfl | rfl | rfl
  · exact w_c0
  · exact w_c1
  · exact w_c2
  · exact w_c3
  · exact w_c4
  · exact w_c5
  · exact w_c6
  · exact w_c7
  · exact w_c8
  · exact w_c9
  · exact w_c10
  · exact w_c11
set_option maxRecDepth 65536 in
theorem w_t1 : (words1.take 24).all (fun c => isCode c || c.before args0 about1) = true := by decide +kernel
set_option maxRecDepth 65536 in
theorem w_t2 : ((words1.drop 24).take 24).all (fun c => isCode c || c.before args0 about1) = true := by decide +kernel
set_option maxRecDepth 65536 in
theorem w_t3 : ((words1.drop 24).drop 24).all (fun c => isCode c || c.before args0 about1) = true := by decide +kernel
theorem w_tables : (allAtoms (Jvm.Cond.code x code maxLocals ret :: tables_1)).before args0 about1 = true := by
  rw [allAtoms_all]
  show words1.all (fun c => c.before args0 about1) = true
  refine all_split ?_ w_codes
  rw [← List.take_append_drop 24 words1, List.all_append, w_t1, ← List.take_append_drop 24 (words1.drop 24), List.all_append, w_t2, w_t3]
  rfl
set_option maxRecDepth 65536 in
theorem w_case : (Jvm.Cond.and given_1 narrow_1).before args0 about1 = true := by decide +kernel
theorem w_applies : (headSpec (Jvm.Cond.code x code maxLocals ret :: tables_1) room_1).applies x e0.platform about1 = true :=
  (Spec.applies_iff w_frames).mpr ⟨w_running, w_runnable, w_alone, w_named, w_hears, w_ripe, w_room, w_tables⟩
theorem atStart : AtStart classFile x code maxLocals ret World_1 tables_1 room_1 Calls_1 rest_1 Pre_1 launch0 p0 e0 about1 theMethod args0 below0 :=
  ⟨lists_1, trivial, launch0.admits_env _ _ _, launch0.least_env, fairChoices_fair.cas, fairChoices_fair.clock, w_frames, w_args, w_heap, w_applies, trivial, trivial, w_case⟩
end start1
theorem witness_1 : WitnessClaimed_1 := ⟨start1.p0, start1.e0, start1.about1, start1.theMethod, start1.args0, start1.below0, start1.atStart⟩
end Jvm.Pilot.@@N@@
