import JvmDerived
import JvmDerived.Pilot.@@N@@Statement
import JvmDerived.Pilot.@@N@@Code
set_option linter.unusedVariables false
set_option linter.unusedSimpArgs false
namespace Jvm.RoadKit
open Sem ClassFile Op Lib Jvm.Stand Jvm.Free Jvm.LawKit
section Own
variable {p : Program} {l : Launch} {e : Env} {R : Room} {s : State} {m : MethodId} {args : Array Value} {below : List Frame} {meth : Method} {c : Code} {T : State} {locs : List Loc} {cells slots : Nat} {Z : State} {a0 : Array Value} {h : Heap}
/-- what is left of a body: from the frame g on it ends, and Q holds of what it returns, the heap and the places written -/
def Goes (p : Program) (e : Env) (below : List Frame) (s : State) (K N : Nat) (Q : Option Value → Heap → List Loc → Prop) (T : State) (g : JFrame) : Prop :=
  ∃ s₂ o, Steps p.tables e below (T.setTop g) s₂ ∧ s₂.status = .running ∧ Ended s₂ below o ∧ ∃ v L, o = .returned v ∧ Q v s₂.heap L ∧ FrameEnd s o s₂ L K N
theorem Goes.step {K N : Nat} {Q : Option Value → Heap → List Loc → Prop} {T' : State} {g g' : JFrame} (k : ∀ t, Steps p.tables e below (T'.setTop g') t → Steps p.tables e below (T.setTop g) t) (h : Goes p e below s K N Q T' g') : Goes p e below s K N Q T g := by
  obtain ⟨s₂, o, h1, h2⟩ := h
  exact ⟨s₂, o, k _ h1, h2⟩
theorem Goes.jump {K N : Nat} {Q : Option Value → Heap → List Loc → Prop} {T' : State} {g g' : JFrame} (k : Steps p.tables e below (T.setTop g) (T'.setTop g')) (h : Goes p e below s K N Q T' g') : Goes p e below s K N Q T g :=
  Goes.step (fun _ q => k.trans q) h
theorem Goes.ite {K N : Nat} {α : Type} {Q : α → Option Value → Heap → List Loc → Prop} {g : JFrame} {a b : α} {d : Prop} [Decidable d] (h1 : d → Goes p e below s K N (Q a) T g) (h2 : ¬ d → Goes p e below s K N (Q b) T g) : Goes p e below s K N (Q (if d then a else b)) T g := by
  split
  · next q => exact h1 q
  · next q => exact h2 q
theorem Goes.imp {K N : Nat} {Q Q' : Option Value → Heap → List Loc → Prop} {g : JFrame} (q : ∀ v h L, Q v h L → Q' v h L) (h : Goes p e below s K N Q T g) : Goes p e below s K N Q' T g := by
  obtain ⟨s₂, o, h1, h2, h3, v, L, h4, h5, h6⟩ := h
  exact ⟨s₂, o, h1, h2, h3, v, L, h4, q _ _ _ h5, h6⟩
theorem retI (X : Stand p l e R s m args below meth c T locs cells slots) (hx : p.tables.exec = Jvm.exec) {pc : Nat} {Ls : Array Slot} {z : Int32} {rest : List Value} (hret : meth.sig.returnType = some .int) (hd : decode c.code pc = .ok (.ireturn, 1)) {fs : List Frame}
    (hl : ∀ (f : JFrame) (acts : List Action), f.method = m → f.locked = none → f.entered = [] → (doReturn e (T.setTop f) acts (some (.int z))).1 = T.setFrames fs) : Steps p.tables e below (T.setTop (mkF m pc Ls (.int z :: rest))) (T.setFrames fs) := by
  have hm' : T.vm.method? m = some meth := X.method'
  have hn : narrow .int (.int z) = .int z := rfl
  show Steps p.tables e below (T.setTop { method := m, pc := pc, locals := Ls, stack := _ :: rest, locked := none }) _
  jvm_step X.here [X.here.top, hx, hd, hm', hret, hn]
  first | (intro acts; rw [hl _ acts rfl rfl rfl]) | rw [hl _ _ rfl rfl rfl]
  exact Steps.refl _
theorem retJ (X : Stand p l e R s m args below meth c T locs cells slots) (hx : p.tables.exec = Jvm.exec) {pc : Nat} {Ls : Array Slot} {z : Int64} {rest : List Value} (hret : meth.sig.returnType = some .long) (hd : decode c.code pc = .ok (.lreturn, 1)) {fs : List Frame}
    (hl : ∀ (f : JFrame) (acts : List Action), f.method = m → f.locked = none → f.entered = [] → (doReturn e (T.setTop f) acts (some (.long z))).1 = T.setFrames fs) : Steps p.tables e below (T.setTop (mkF m pc Ls (.long z :: rest))) (T.setFrames fs) :=
  retOut X hx hret rfl (Or.inr (Or.inl ⟨rfl, rfl, z, rfl⟩)) hd hl
theorem Goes.outI (X : Stand p l e R s m args below meth c T locs cells slots) (hx : p.tables.exec = Jvm.exec) (hlk : meth.locks = false) (hret : meth.sig.returnType = some .int) {pc : Nat} (hd : decode c.code pc = .ok (.ireturn, 1)) {Ls : Array Slot} {z : Int32} {rest : List Value} {K N : Nat} {Q : Option Value → Heap → List Loc → Prop}
    (hq : Q (some (.int z)) T.heap locs) (hk : cells ≤ K) (hn : slots ≤ N) : Goes p e below s K N Q T (mkF m pc Ls (.int z :: rest)) := by
  obtain ⟨fs, hr, hrun, hended, hW, hsame⟩ := X.leave (v := some (.int z)) (fun h => by rw [hret] at h; cases h) hlk
  exact ⟨_, _, retI X hx hret hd hr, hrun, hended, _, _, rfl, hq, ⟨_, rfl⟩, hW, hsame.mono hk hn⟩
theorem Goes.outJ (X : Stand p l e R s m args below meth c T locs cells slots) (hx : p.tables.exec = Jvm.exec) (hlk : meth.locks = false) (hret : meth.sig.returnType = some .long) {pc : Nat} (hd : decode c.code pc = .ok (.lreturn, 1)) {Ls : Array Slot} {z : Int64} {rest : List Value} {K N : Nat} {Q : Option Value → Heap → List Loc → Prop}
    (hq : Q (some (.long z)) T.heap locs) (hk : cells ≤ K) (hn : slots ≤ N) : Goes p e below s K N Q T (mkF m pc Ls (.long z :: rest)) := by
  obtain ⟨fs, hr, hrun, hended, hW, hsame⟩ := X.leave (v := some (.long z)) (fun h => by rw [hret] at h; cases h) hlk
  exact ⟨_, _, retJ X hx hret hd hr, hrun, hended, _, _, rfl, hq, ⟨_, rfl⟩, hW, hsame.mono hk hn⟩
theorem Goes.outN (X : Stand p l e R s m args below meth c T locs cells slots) (hx : p.tables.exec = Jvm.exec) (hlk : meth.locks = false) {t : FieldType} (hret : meth.sig.returnType = some t) (ht : t = .boolean ∨ t = .byte ∨ t = .char ∨ t = .short) {pc : Nat} (hd : decode c.code pc = .ok (.ireturn, 1)) {Ls : Array Slot} {z : Int32} {rest : List Value} {K N : Nat} {Q : Option Value → Heap → List Loc → Prop}
    (hq : Q (some (.int (nar t z))) T.heap locs) (hk : cells ≤ K) (hn : slots ≤ N) : Goes p e below s K N Q T (mkF m pc Ls (.int z :: rest)) := by
  obtain ⟨fs, hr, hrun, hended, hW, hsame⟩ := X.leave (v := some (.int (nar t z))) (fun h => by rw [hret] at h; cases h) hlk
  exact ⟨_, _, retN X hx hret ht hd hr, hrun, hended, _, _, rfl, hq, ⟨_, rfl⟩, hW, hsame.mono hk hn⟩
theorem Goes.outV (X : Stand p l e R s m args below meth c T locs cells slots) (hx : p.tables.exec = Jvm.exec) (hlk : meth.locks = false) (hret : meth.sig.returnType = none) {pc : Nat} (hd : decode c.code pc = .ok (.return_, 1)) {Ls : Array Slot} {K N : Nat} {Q : Option Value → Heap → List Loc → Prop}
    (hq : Q none T.heap locs) (hk : cells ≤ K) (hn : slots ≤ N) : Goes p e below s K N Q T (mkF m pc Ls []) := by
  obtain ⟨fs, hr, hrun, hended, hW, hsame⟩ := X.leave (v := none) (fun _ => rfl) hlk
  exact ⟨_, _, X.returnOut hx hret hd hr, hrun, hended, _, _, rfl, hq, ⟨_, rfl⟩, hW, hsame.mono hk hn⟩
theorem Goes.outR (X : Stand p l e R s m args below meth c T locs cells slots) (hx : p.tables.exec = Jvm.exec) (hlk : meth.locks = false) {t : FieldType} (hret : meth.sig.returnType = some t) (ht : t.isReference = true) {w : Value} (hw : w.isRef = true) {pc : Nat} (hd : decode c.code pc = .ok (.areturn, 1)) {Ls : Array Slot} {K N : Nat} {Q : Option Value → Heap → List Loc → Prop}
    (hq : Q (some w) T.heap locs) (hk : cells ≤ K) (hn : slots ≤ N) : Goes p e below s K N Q T (mkF m pc Ls [w]) := by
  obtain ⟨fs, hr, hrun, hended, hW, hsame⟩ := X.leave (v := some w) (fun h => by rw [hret] at h; cases h) hlk
  exact ⟨_, _, X.areturnOut hx hw hret ht hd hr, hrun, hended, _, _, rfl, hq, ⟨_, rfl⟩, hW, hsame.mono hk hn⟩
/-- a body that returns v and leaves the heap as it was -/
def PV (h0 : Heap) (r : Value) (v : Option Value) (h : Heap) (L : List Loc) : Prop := v = some r ∧ L = [] ∧ h = h0
def PI (h0 : Heap) (r : Int32) (v : Option Value) (h : Heap) (L : List Loc) : Prop := PV h0 (.int r) v h L
def PJ (h0 : Heap) (r : Int64) (v : Option Value) (h : Heap) (L : List Loc) : Prop := PV h0 (.long r) v h L
def PA (h0 : Heap) (r : Addr) (v : Option Value) (h : Heap) (L : List Loc) : Prop := PV h0 (.ref r) v h L
/-- a reference that may be null -/
def ov : Option Addr → Value
  | none => .null
  | some b => .ref b
def PO (h0 : Heap) (r : Option Addr) (v : Option Value) (h : Heap) (L : List Loc) : Prop := PV h0 (ov r) v h L
theorem ov_cat (o : Option Addr) : (ov o).category = 1 := by cases o <;> rfl
theorem ov_inj {a b : Option Addr} : (ov a = ov b) = (a = b) := by cases a <;> cases b <;> simp [ov]
theorem ov_ref (o : Option Addr) : (ov o).isRef = true := by cases o <;> rfl
/-- a virtual call of a body that leaves the heap as it was -/
theorem callPureV (X : Stand p l e R s m args below meth c T locs cells slots) (hx : p.tables.exec = Jvm.exec) (hZ : Z.Warmed39 s.vm) {own C : String} {index : Nat} {y z : MethodName} {bytes : ByteArray} {maxL : Nat} {ret : Option FieldType} (hown : s.vm.findClass own = some m.cls)
    (w1 : (Cond.methodLink own index y).before a0 Z = true) (w2 : (Cond.declares y).before a0 Z = true) (w3 : (Cond.selects C y z).before a0 Z = true) (w4 : (Cond.instanceMethod z).before a0 Z = true) (w5 : (Cond.code z bytes maxL ret).before a0 Z = true) (w6 : (Cond.initialized z.cls).before a0 Z = true) (hnf : NotFace s y) (hy : y.cls ≠ "java/lang/invoke/MethodHandle" ∧ y.cls ≠ "java/lang/invoke/VarHandle")
    {F W0 W : Nat} {b : Addr} {argsL rest : List Value} {r : Value} {Q : Option Value → Heap → List Loc → Prop} (hQ : ∀ v h' L, Q v h' L → PV h r v h' L)
    (hM : MetFree l z (head1 [Cond.code z bytes maxL ret] ({ frames := F, cells := 0, slots := 0, locals := W0 } : Room)) (fun a U => a = (.ref b :: argsL).toArray ∧ Z.Warmed39 U.vm ∧ U.heap = h) (fun _ _ _ _ _ => True) (fun _ U o U' => ∃ v L, o = .returned v ∧ Q v U'.heap L ∧ FrameEnd U o U' L ({ frames := F, cells := 0, slots := 0, locals := W0 } : Room).cells ({ frames := F, cells := 0, slots := 0, locals := W0 } : Room).slots))
    (hf : F + 1 ≤ R.frames) (hl : W + (maxL + 11) + W0 ≤ R.locals) (hc : cells ≤ R.cells) (hs : slots ≤ R.slots) (eT : T.heap = h) (E : Exa Z h b C) {g : JFrame} (hg : g.method = m) (hsize : g.locals.size = c.maxLocals) (hlen : ∀ sig, parseMethodDescriptor y.desc = some sig → argsL.length = sig.parameters.length)
    (hstack : g.stack = argsL.reverse ++ .ref b :: rest) (hW : 2 * g.monitorRoom + (rest.map fun v => v.category).sum ≤ W) (hd : decode c.code g.pc = .ok (.invokevirtual index, 3)) :
    ∃ T', Stand p l e R s m args below meth c T' locs cells slots ∧ T'.heap = h ∧ ∀ target, Steps p.tables e below (T'.setTop { g with pc := g.pc + 3, stack := r :: rest }) target → Steps p.tables e below (T.setTop g) target := by
  obtain ⟨cq, kq, qa, qb, qc⟩ := isOf hZ eT E
  obtain ⟨_, _, ⟨T18, L18, k18, n18⟩, -, X18, ⟨Lc, hq, l18, y18, z18⟩, st⟩ := X.virtualBack hx hown (mvT hZ w1) (mvT hZ w2) hnf (mvT hZ w3) (mvT hZ w4) hy (backOf (W := W) hM hZ w5 w6 hf hl) qa qc hg hsize (Steps.refl _) hlen hstack hW hd (fun _ _ => ⟨rfl, eT, hc, hs⟩)
  dsimp only [Pt.U, Pt.locs, Pt.cells, Pt.slots] at X18 l18 y18 z18 st hq
  subst l18 y18 z18
  obtain ⟨rfl, rfl, e18⟩ := hQ _ _ _ hq
  rw [List.append_nil] at X18
  exact ⟨T18, X18, e18, fun _ k => st.trans k⟩
/-- a static call of a body that leaves the heap as it was -/
theorem callPure (X : Stand p l e R s m args below meth c T locs cells slots) (hx : p.tables.exec = Jvm.exec) (hZ : Z.Warmed39 s.vm) {own : String} {index : Nat} {y : MethodName} {bytes : ByteArray} {maxL : Nat} {ret : Option FieldType} (hown : s.vm.findClass own = some m.cls)
    (w1 : (Cond.methodLink own index y).before a0 Z = true) (w2 : (Cond.static y).before a0 Z = true) (w3 : (Cond.initialized y.cls).before a0 Z = true) (w4 : (Cond.code y bytes maxL ret).before a0 Z = true) (hy : y.cls ≠ "java/lang/invoke/MethodHandle" ∧ y.cls ≠ "java/lang/invoke/VarHandle")
    {F W0 W : Nat} {argsL rest : List Value} {r : Value} {Q : Option Value → Heap → List Loc → Prop} (hQ : ∀ v h' L, Q v h' L → PV h r v h' L)
    (hM : MetFree l y (head1 [Cond.code y bytes maxL ret] ({ frames := F, cells := 0, slots := 0, locals := W0 } : Room)) (fun a U => a = argsL.toArray ∧ Z.Warmed39 U.vm ∧ U.heap = h) (fun _ _ _ _ _ => True) (fun _ U o U' => ∃ v L, o = .returned v ∧ Q v U'.heap L ∧ FrameEnd U o U' L ({ frames := F, cells := 0, slots := 0, locals := W0 } : Room).cells ({ frames := F, cells := 0, slots := 0, locals := W0 } : Room).slots))
    (hf : F + 1 ≤ R.frames) (hl : W + (maxL + 11) + W0 ≤ R.locals) (hc : cells ≤ R.cells) (hs : slots ≤ R.slots) (eT : T.heap = h) {g : JFrame} (hg : g.method = m) (hsize : g.locals.size = c.maxLocals) (hlen : ∀ sig, parseMethodDescriptor y.desc = some sig → argsL.length = sig.parameters.length)
    (hstack : g.stack = argsL.reverse ++ rest) (hW : 2 * g.monitorRoom + (rest.map fun v => v.category).sum ≤ W) (hd : decode c.code g.pc = .ok (.invokestatic index, 3)) :
    ∃ T', Stand p l e R s m args below meth c T' locs cells slots ∧ T'.heap = h ∧ ∀ target, Steps p.tables e below (T'.setTop { g with pc := g.pc + 3, stack := r :: rest }) target → Steps p.tables e below (T.setTop g) target := by
  obtain ⟨_, _, ⟨T18, L18, k18, n18⟩, -, X18, ⟨Lc, hq, l18, y18, z18⟩, st⟩ := Jvm.LawKit.callS X hx hown (mvT hZ w1) (mvT hZ w2) (mvT hZ w3) (mvT hZ w4) hy (backOf (W := W) hM hZ w4 w3 hf hl) hg hsize hlen hstack hW hd (fun _ _ => ⟨rfl, eT, hc, hs⟩)
  dsimp only [Pt.U, Pt.locs, Pt.cells, Pt.slots] at X18 l18 y18 z18 st hq
  subst l18 y18 z18
  obtain ⟨rfl, rfl, e18⟩ := hQ _ _ _ hq
  rw [List.append_nil] at X18
  exact ⟨T18, X18, e18, st⟩
end Own
end Jvm.RoadKit
namespace Jvm.RoadKit
open Sem ClassFile Op Lib Jvm.Stand Jvm.Free Jvm.LawKit
section OwnHeap
variable {p : Program} {l : Launch} {e : Env} {R : Room} {s : State} {m : MethodId} {args : Array Value} {below : List Frame} {meth : Method} {c : Code} {T : State} {locs : List Loc} {cells slots : Nat} {Z : State} {a0 : Array Value} {h h' : Heap} {a b : Addr} {ty : FieldType} {n : Nat} {f : Nat → Int32}
/-- a law's end: what it returns; nothing old was written -/
def PG (n0 : Nat) (r : Int32) (v : Option Value) (h : Heap) (L : List Loc) : Prop := v = some (.int r) ∧ Fr n0 L
/-- an array of n ints (bytes, chars ..): place j holds f j -/
def Ari (Z : State) (h : Heap) (a : Addr) (ty : FieldType) (n : Nat) (f : Nat → Int32) : Prop := ∃ c : Cell, Arr Z h a c ty ∧ c.slots.size = n ∧ n < 2 ^ 31 ∧ ∀ j, j < n → c.slots[j]? = some (.int (f j)) ∧ fits ty (.int (f j)) = true
theorem Ari.lt (F : Ari Z h a ty n f) : a < h.size := by obtain ⟨c, A, -⟩ := F; exact A.lt
theorem Ari.ext (F : Ari Z h a ty n f) (E : Ext h h') : Ari Z h' a ty n f := by obtain ⟨c, A, r⟩ := F; exact ⟨c, A.ext E, r⟩
theorem Ari.other {v : Value} {sl : Nat} (F : Ari Z h b ty n f) (W : Wr h h' a sl v) (q : b ≠ a) : Ari Z h' b ty n f := by obtain ⟨c, A, r⟩ := F; exact ⟨c, A.other W q, r⟩
theorem Ari.keep {ws : List Addr} (F : Ari Z h a ty n f) (K : Keep h h' ws) (q : a ∉ ws) : Ari Z h' a ty n f := by obtain ⟨c, A, r⟩ := F; exact ⟨c, ⟨K.2.1 a c A.1 q, A.2⟩, r⟩
theorem Ari.cast {g : Nat → Int32} (F : Ari Z h a ty n f) (q : ∀ j, j < n → f j = g j) : Ari Z h a ty n g := by
  obtain ⟨c, A, h1, h2, h3⟩ := F
  exact ⟨c, A, h1, h2, fun j hj => by rw [← q j hj]; exact h3 j hj⟩
def updI (f : Nat → Int32) (i : Nat) (x : Int32) : Nat → Int32 := fun j => if j = i then x else f j
theorem Ari.store {i : Nat} {x : Int32} (F : Ari Z h a ty n f) (W : Wr h h' a i (.int x)) (hi : i < n) (hx : fits ty (.int x) = true) : Ari Z h' a ty n (updI f i x) := by
  obtain ⟨c, A, h1, h2, h3⟩ := F
  refine ⟨c.setSlot i (.int x), A.same W, by rw [sz_set]; exact h1, h2, fun j hj => ?_⟩
  by_cases e : j = i
  · subst e
    simp only [updI, if_true]
    exact ⟨by simp [Cell.setSlot, h1, hj], hx⟩
  · simp only [updI, e, if_false]
    exact ⟨by rw [← (h3 j hj).1]; simp [Cell.setSlot, Array.getElem?_setIfInBounds, Ne.symm e], (h3 j hj).2⟩
theorem own_fitsI (x : Int32) : fits .int (.int x) = true := rfl
/-- newarray of N places -/
theorem newI (X : Stand p l e R s m args below meth c T locs cells slots) (hx : p.tables.exec = Jvm.exec) (hZ : Z.Warmed39 s.vm) {aty : ArrayType} (w : (Cond.arrayClass (newarray.typeOf aty)).before a0 Z = true) (eT : T.heap = h) {g : JFrame} (hg : g.method = m) (hd : decode c.code g.pc = .ok (.newarray aty, 2)) {z : Int32} {rest : List Value} (hs : g.stack = .int z :: rest)
    {N : Nat} (hz : z = Int32.ofNat N) {cap : Nat} (hcap : N ≤ cap) (hb : cap * 8 ≤ 536870912) (hc : cells + 1 ≤ R.cells) (hl : slots + cap ≤ R.slots) (hdv : defaultValue (newarray.typeOf aty) = .int 0) (hft : fits (newarray.typeOf aty) (.int 0) = true) :
    ∃ T' h', Stand p l e R s m args below meth c T' locs (cells + 1) (slots + cap) ∧ T'.heap = h' ∧ Ext h h' ∧ Ari Z h' h.size (newarray.typeOf aty) N (fun _ => 0) ∧ ∀ target, Steps p.tables e below (T'.setTop { g with pc := g.pc + 2, stack := .ref h.size :: rest }) target → Steps p.tables e below (T.setTop g) target := by
  have hN : N < 2 ^ 31 := by omega
  have ez : z.toInt = N := by rw [hz]; exact Int32.toInt_ofNat_of_lt hN
  have h0 : ¬ z < 0 := by rw [Int32.lt_iff_toInt_lt, ez]; have : (0 : Int32).toInt = 0 := rfl; omega
  have hn : z.toNatClampNeg = N := by have := nat_of h0; omega
  obtain ⟨T', h', cA, X', e', E, A, st⟩ := newP X hx hZ w eT hg hd hs h0 (cap := cap) (by omega) hb hc hl
  refine ⟨T', h', X', e', E, ⟨_, A, by rw [sz_new, hn], hN, fun j hj => ⟨?_, hft⟩⟩, st⟩
  simp [newA, hn, hj, hdv]
/-- iastore, bastore, castore at place i -/
theorem own_in {j : Int32} {i n : Nat} (hj : j = Int32.ofNat i) (hi : i < n) (hn : n < 2 ^ 31) : ¬ (j < 0 ∨ n ≤ j.toNatClampNeg) ∧ j.toNatClampNeg = i := by
  have ez : j.toInt = i := by rw [hj]; exact Int32.toInt_ofNat_of_lt (by omega)
  have h0 : ¬ j < 0 := by rw [Int32.lt_iff_toInt_lt, ez]; have : (0 : Int32).toInt = 0 := rfl; omega
  have hk : j.toNatClampNeg = i := by have := nat_of h0; omega
  exact ⟨by rintro (q | q); exact h0 q; omega, hk⟩
theorem stoI (X : Stand p l e R s m args below meth c T locs cells slots) (hx : p.tables.exec = Jvm.exec) (hZ : Z.Warmed39 s.vm) (eT : T.heap = h) (A : Ari Z h a .int n f) {j x : Int32} (i : Nat) (hj : j = Int32.ofNat i) (hi : i < n) {g : JFrame} (hg : g.method = m) {rest : List Value} (hs : g.stack = .int x :: .int j :: .ref a :: rest) (hd : decode c.code g.pc = .ok (.iastore, 1)) :
    ∃ T' h', Stand p l e R s m args below meth c T' (locs ++ [⟨a, i⟩]) cells slots ∧ T'.heap = h' ∧ Wr h h' a i (.int x) ∧ Ari Z h' a .int n (updI f i x) ∧ ∀ target, Steps p.tables e below (T'.setTop { g with pc := g.pc + 1, stack := rest }) target → Steps p.tables e below (T.setTop g) target := by
  have A' := A
  obtain ⟨cl, A1, h1, h2, h3⟩ := A
  obtain ⟨q1, q2⟩ := own_in hj hi h2
  obtain ⟨T', h', X', e', W, st⟩ := stI X hx hZ eT A1 (j := j) (by rw [h1]; exact q1) hg hs hd
  rw [q2] at X' W
  exact ⟨T', h', X', e', W, A'.store W hi rfl, st⟩
theorem stoB (X : Stand p l e R s m args below meth c T locs cells slots) (hx : p.tables.exec = Jvm.exec) (hZ : Z.Warmed39 s.vm) (eT : T.heap = h) (A : Ari Z h a .byte n f) {j x : Int32} (i : Nat) (hj : j = Int32.ofNat i) (hi : i < n) {g : JFrame} (hg : g.method = m) {rest : List Value} (hs : g.stack = .int x :: .int j :: .ref a :: rest) (hd : decode c.code g.pc = .ok (.bastore, 1)) :
    ∃ T' h', Stand p l e R s m args below meth c T' (locs ++ [⟨a, i⟩]) cells slots ∧ T'.heap = h' ∧ Wr h h' a i (.int x.toInt8.toInt32) ∧ Ari Z h' a .byte n (updI f i x.toInt8.toInt32) ∧ ∀ target, Steps p.tables e below (T'.setTop { g with pc := g.pc + 1, stack := rest }) target → Steps p.tables e below (T.setTop g) target := by
  have A' := A
  obtain ⟨cl, A1, h1, h2, h3⟩ := A
  obtain ⟨q1, q2⟩ := own_in hj hi h2
  obtain ⟨T', h', X', e', W, st⟩ := stB X hx hZ eT A1 (j := j) (by rw [h1]; exact q1) hg hs hd
  rw [q2] at X' W
  exact ⟨T', h', X', e', W, A'.store W hi (fits_nar_byte x), st⟩
theorem stoC (X : Stand p l e R s m args below meth c T locs cells slots) (hx : p.tables.exec = Jvm.exec) (hZ : Z.Warmed39 s.vm) (eT : T.heap = h) (A : Ari Z h a .char n f) {j x : Int32} (i : Nat) (hj : j = Int32.ofNat i) (hi : i < n) {g : JFrame} (hg : g.method = m) {rest : List Value} (hs : g.stack = .int x :: .int j :: .ref a :: rest) (hd : decode c.code g.pc = .ok (.castore, 1)) :
    ∃ T' h', Stand p l e R s m args below meth c T' (locs ++ [⟨a, i⟩]) cells slots ∧ T'.heap = h' ∧ Wr h h' a i (.int (nar .char x)) ∧ Ari Z h' a .char n (updI f i (nar .char x)) ∧ ∀ target, Steps p.tables e below (T'.setTop { g with pc := g.pc + 1, stack := rest }) target → Steps p.tables e below (T.setTop g) target := by
  have A' := A
  obtain ⟨cl, A1, h1, h2, h3⟩ := A
  obtain ⟨q1, q2⟩ := own_in hj hi h2
  obtain ⟨T', h', X', e', W, st⟩ := stC X hx hZ eT A1 (j := j) (by rw [h1]; exact q1) hg hs hd
  rw [q2] at X' W
  exact ⟨T', h', X', e', W, A'.store W hi (fits_nar_char x), st⟩
/-- iaload, baload at place i; arraylength -/
theorem rdI (X : Stand p l e R s m args below meth c T locs cells slots) (hx : p.tables.exec = Jvm.exec) (hZ : Z.Warmed39 s.vm) (eT : T.heap = h) (A : Ari Z h a .int n f) {j : Int32} (i : Nat) (hj : j = Int32.ofNat i) (hi : i < n) {g : JFrame} (hg : g.method = m) {rest : List Value} (hs : g.stack = .int j :: .ref a :: rest) (hd : decode c.code g.pc = .ok (.iaload, 1)) :
    ∀ target, Steps p.tables e below (T.setTop { g with pc := g.pc + 1, stack := .int (f i) :: rest }) target → Steps p.tables e below (T.setTop g) target := by
  obtain ⟨cl, A1, h1, h2, h3⟩ := A
  obtain ⟨q1, q2⟩ := own_in hj hi h2
  intro target k
  exact X.iaload hx (by rw [eT]; exact A1.1) (State.isArrayOf_alike hZ.alike A1.2.1) A1.2.2 (by rw [h1]; exact q1) (by rw [q2]; exact (h3 i hi).1) hg hs hd _ k
theorem rdB (X : Stand p l e R s m args below meth c T locs cells slots) (hx : p.tables.exec = Jvm.exec) (hZ : Z.Warmed39 s.vm) (eT : T.heap = h) (A : Ari Z h a .byte n f) {j : Int32} (i : Nat) (hj : j = Int32.ofNat i) (hi : i < n) {g : JFrame} (hg : g.method = m) {rest : List Value} (hs : g.stack = .int j :: .ref a :: rest) (hd : decode c.code g.pc = .ok (.baload, 1)) :
    ∀ target, Steps p.tables e below (T.setTop { g with pc := g.pc + 1, stack := .int (f i) :: rest }) target → Steps p.tables e below (T.setTop g) target := by
  obtain ⟨cl, A1, h1, h2, h3⟩ := A
  obtain ⟨q1, q2⟩ := own_in hj hi h2
  intro target k
  exact X.baloadBytes hx (by rw [eT]; exact A1.1) (State.isArrayOf_alike hZ.alike A1.2.1) A1.2.2 (by rw [h1]; exact q1) (by rw [q2]; exact (h3 i hi).1) hg hs hd _ k
theorem rdL (X : Stand p l e R s m args below meth c T locs cells slots) (hx : p.tables.exec = Jvm.exec) (hZ : Z.Warmed39 s.vm) (eT : T.heap = h) (A : Ari Z h a ty n f) {g : JFrame} (hg : g.method = m) {rest : List Value} (hs : g.stack = .ref a :: rest) (hd : decode c.code g.pc = .ok (.arraylength, 1)) :
    ∀ target, Steps p.tables e below (T.setTop { g with pc := g.pc + 1, stack := .int (Int32.ofNat n) :: rest }) target → Steps p.tables e below (T.setTop g) target := by
  obtain ⟨cl, A1, h1, h2, h3⟩ := A
  intro target k
  refine X.arraylength hx (by rw [eT]; exact A1.1) (State.isArrayOf_alike hZ.alike A1.2.1) hg hs hd _ ?_
  rw [h1]
  exact k
/-- calls by a contract that may make and write -/
theorem callX (X : Stand p l e R s m args below meth c T locs cells slots) (hx : p.tables.exec = Jvm.exec) (hZ : Z.Warmed39 s.vm) {own : String} {index : Nat} {y : MethodName} {bytes : ByteArray} {maxL : Nat} {ret : Option FieldType} (hown : s.vm.findClass own = some m.cls)
    (w1 : (Cond.methodLink own index y).before a0 Z = true) (w2 : (Cond.static y).before a0 Z = true) (w3 : (Cond.initialized y.cls).before a0 Z = true) (w4 : (Cond.code y bytes maxL ret).before a0 Z = true) (hy : y.cls ≠ "java/lang/invoke/MethodHandle" ∧ y.cls ≠ "java/lang/invoke/VarHandle")
    {rm : Room} {W : Nat} {argsL rest : List Value} {Q : Option Value → Heap → List Loc → Prop}
    (hM : MetFree l y (head1 [Cond.code y bytes maxL ret] rm) (fun a U => a = argsL.toArray ∧ Z.Warmed39 U.vm ∧ U.heap = h) (fun _ _ _ _ _ => True) (fun _ U o U' => ∃ v L, o = .returned v ∧ Q v U'.heap L ∧ FrameEnd U o U' L rm.cells rm.slots))
    (hf : rm.frames + 1 ≤ R.frames) (hl : W + (maxL + 11) + rm.locals ≤ R.locals) (hc : cells + rm.cells ≤ R.cells) (hs : slots + rm.slots ≤ R.slots) (eT : T.heap = h) {g : JFrame} (hg : g.method = m) (hsize : g.locals.size = c.maxLocals) (hlen : ∀ sig, parseMethodDescriptor y.desc = some sig → argsL.length = sig.parameters.length)
    (hstack : g.stack = argsL.reverse ++ rest) (hW : 2 * g.monitorRoom + (rest.map fun v => v.category).sum ≤ W) (hd : decode c.code g.pc = .ok (.invokestatic index, 3)) :
    ∃ v T' h' L, Stand p l e R s m args below meth c T' (locs ++ L) (cells + rm.cells) (slots + rm.slots) ∧ T'.heap = h' ∧ Q v h' L ∧ ∀ target, Steps p.tables e below (T'.setTop { g with pc := g.pc + 3, stack := v.toList ++ rest }) target → Steps p.tables e below (T.setTop g) target := by
  obtain ⟨v, _, ⟨T18, L18, k18, n18⟩, -, X18, ⟨Lc, hq, l18, y18, z18⟩, st⟩ := Jvm.LawKit.callS X hx hown (mvT hZ w1) (mvT hZ w2) (mvT hZ w3) (mvT hZ w4) hy (backOf (W := W) hM hZ w4 w3 hf hl) hg hsize hlen hstack hW hd (fun _ _ => ⟨rfl, eT, hc, hs⟩)
  dsimp only [Pt.U, Pt.locs, Pt.cells, Pt.slots] at X18 l18 y18 z18 st hq
  subst l18 y18 z18
  exact ⟨v, T18, _, Lc, X18, rfl, hq, st⟩
theorem callXV (X : Stand p l e R s m args below meth c T locs cells slots) (hx : p.tables.exec = Jvm.exec) (hZ : Z.Warmed39 s.vm) {own C : String} {index : Nat} {y z : MethodName} {bytes : ByteArray} {maxL : Nat} {ret : Option FieldType} (hown : s.vm.findClass own = some m.cls)
    (w1 : (Cond.methodLink own index y).before a0 Z = true) (w2 : (Cond.declares y).before a0 Z = true) (w3 : (Cond.selects C y z).before a0 Z = true) (w4 : (Cond.instanceMethod z).before a0 Z = true) (w5 : (Cond.code z bytes maxL ret).before a0 Z = true) (w6 : (Cond.initialized z.cls).before a0 Z = true) (hnf : NotFace s y) (hy : y.cls ≠ "java/lang/invoke/MethodHandle" ∧ y.cls ≠ "java/lang/invoke/VarHandle")
    {rm : Room} {W : Nat} {argsL rest : List Value} {Q : Option Value → Heap → List Loc → Prop}
    (hM : MetFree l z (head1 [Cond.code z bytes maxL ret] rm) (fun a U => a = (.ref b :: argsL).toArray ∧ Z.Warmed39 U.vm ∧ U.heap = h) (fun _ _ _ _ _ => True) (fun _ U o U' => ∃ v L, o = .returned v ∧ Q v U'.heap L ∧ FrameEnd U o U' L rm.cells rm.slots))
    (hf : rm.frames + 1 ≤ R.frames) (hl : W + (maxL + 11) + rm.locals ≤ R.locals) (hc : cells + rm.cells ≤ R.cells) (hs : slots + rm.slots ≤ R.slots) (eT : T.heap = h) (E : Exa Z h b C) {g : JFrame} (hg : g.method = m) (hsize : g.locals.size = c.maxLocals) (hlen : ∀ sig, parseMethodDescriptor y.desc = some sig → argsL.length = sig.parameters.length)
    (hstack : g.stack = argsL.reverse ++ .ref b :: rest) (hW : 2 * g.monitorRoom + (rest.map fun v => v.category).sum ≤ W) (hd : decode c.code g.pc = .ok (.invokevirtual index, 3)) :
    ∃ v T' h' L, Stand p l e R s m args below meth c T' (locs ++ L) (cells + rm.cells) (slots + rm.slots) ∧ T'.heap = h' ∧ Q v h' L ∧ ∀ target, Steps p.tables e below (T'.setTop { g with pc := g.pc + 3, stack := v.toList ++ rest }) target → Steps p.tables e below (T.setTop g) target := by
  obtain ⟨cq, kq, qa, qb, qc⟩ := isOf hZ eT E
  obtain ⟨v, _, ⟨T18, L18, k18, n18⟩, -, X18, ⟨Lc, hq, l18, y18, z18⟩, st⟩ := X.virtualBack hx hown (mvT hZ w1) (mvT hZ w2) hnf (mvT hZ w3) (mvT hZ w4) hy (backOf (W := W) hM hZ w5 w6 hf hl) qa qc hg hsize (Steps.refl _) hlen hstack hW hd (fun _ _ => ⟨rfl, eT, hc, hs⟩)
  dsimp only [Pt.U, Pt.locs, Pt.cells, Pt.slots] at X18 l18 y18 z18 st hq
  subst l18 y18 z18
  exact ⟨v, T18, _, Lc, X18, rfl, hq, fun _ k => st.trans k⟩
theorem callXP (X : Stand p l e R s m args below meth c T locs cells slots) (hx : p.tables.exec = Jvm.exec) (hZ : Z.Warmed39 s.vm) {own C : String} {index ki : Nat} {y : MethodName} {bytes : ByteArray} {maxL : Nat} {ret : Option FieldType} (hown : s.vm.findClass own = some m.cls)
    (w1 : (Cond.methodLink own index y).before a0 Z = true) (w4 : (Cond.instanceMethod y).before a0 Z = true) (wp : (Cond.privateMethod y).before a0 Z = true) (wi : (Cond.instantiable y.cls ki).before a0 Z = true) (w5 : (Cond.code y bytes maxL ret).before a0 Z = true) (w6 : (Cond.initialized y.cls).before a0 Z = true) (hy : y.cls ≠ "java/lang/invoke/MethodHandle" ∧ y.cls ≠ "java/lang/invoke/VarHandle")
    {rm : Room} {W : Nat} {argsL rest : List Value} {Q : Option Value → Heap → List Loc → Prop}
    (hM : MetFree l y (head1 [Cond.code y bytes maxL ret] rm) (fun a U => a = (.ref b :: argsL).toArray ∧ Z.Warmed39 U.vm ∧ U.heap = h) (fun _ _ _ _ _ => True) (fun _ U o U' => ∃ v L, o = .returned v ∧ Q v U'.heap L ∧ FrameEnd U o U' L rm.cells rm.slots))
    (hf : rm.frames + 1 ≤ R.frames) (hl : W + (maxL + 11) + rm.locals ≤ R.locals) (hc : cells + rm.cells ≤ R.cells) (hs : slots + rm.slots ≤ R.slots) (eT : T.heap = h) (E : Exa Z h b C) {g : JFrame} (hg : g.method = m) (hsize : g.locals.size = c.maxLocals) (hlen : ∀ sig, parseMethodDescriptor y.desc = some sig → argsL.length = sig.parameters.length)
    (hstack : g.stack = argsL.reverse ++ .ref b :: rest) (hW : 2 * g.monitorRoom + (rest.map fun v => v.category).sum ≤ W) (hd : decode c.code g.pc = .ok (.invokevirtual index, 3)) :
    ∃ v T' h' L, Stand p l e R s m args below meth c T' (locs ++ L) (cells + rm.cells) (slots + rm.slots) ∧ T'.heap = h' ∧ Q v h' L ∧ ∀ target, Steps p.tables e below (T'.setTop { g with pc := g.pc + 3, stack := v.toList ++ rest }) target → Steps p.tables e below (T.setTop g) target := by
  have hp : s.PrivateAt y := Cond.privateMethod_at (mvP hZ wp (args := #[]))
  obtain ⟨cc, kk, hcc, hkk, -, hni, -, -⟩ := Cond.instantiable_spec (args := #[]) (mvT hZ wi)
  have hsel : (Cond.selects y.cls y y).before args s = true := selects_self_of_private hcc hkk (Bool.or_eq_false_iff.mp hni).1 hp (mvT hZ w4) hy
  obtain ⟨cq, q3, q3'⟩ := E.cell
  obtain ⟨v, _, ⟨T18, L18, k18, n18⟩, -, X18, ⟨Lc, hq, l18, y18, z18⟩, st⟩ := X.privateBack hx hown (mvT hZ w1) (mvT hZ w4) hsel hp (mvT hZ w5) hy (backOf (W := W) hM hZ w5 w6 hf hl) hg hsize (Steps.refl _) (a := b) (by rw [eT]; exact q3) q3' hlen hstack hW hd (fun _ _ => ⟨rfl, eT, hc, hs⟩)
  dsimp only [Pt.U, Pt.locs, Pt.cells, Pt.slots] at X18 l18 y18 z18 st hq
  subst l18 y18 z18
  exact ⟨v, T18, _, Lc, X18, rfl, hq, fun _ k => st.trans k⟩
theorem callXI (X : Stand p l e R s m args below meth c T locs cells slots) (hx : p.tables.exec = Jvm.exec) (hZ : Z.Warmed39 s.vm) {own : String} {index : Nat} {y : MethodName} {bytes : ByteArray} {maxL : Nat} (hown : s.vm.findClass own = some m.cls) (hy1 : y.name = "<init>")
    (w1 : (Cond.methodLink own index y).before a0 Z = true) (w4 : (Cond.instanceMethod y).before a0 Z = true) (w5 : (Cond.code y bytes maxL none).before a0 Z = true) (w6 : (Cond.initialized y.cls).before a0 Z = true) (hy : y.cls ≠ "java/lang/invoke/MethodHandle" ∧ y.cls ≠ "java/lang/invoke/VarHandle")
    {rm : Room} {W : Nat} {argsL rest : List Value} {Q : Option Value → Heap → List Loc → Prop}
    (hM : MetFree l y (head1 [Cond.code y bytes maxL none] rm) (fun a U => a = (.ref b :: argsL).toArray ∧ Z.Warmed39 U.vm ∧ U.heap = h) (fun _ _ _ _ _ => True) (fun _ U o U' => ∃ v L, o = .returned v ∧ Q v U'.heap L ∧ FrameEnd U o U' L rm.cells rm.slots))
    (hf : rm.frames + 1 ≤ R.frames) (hl : W + (maxL + 11) + rm.locals ≤ R.locals) (hc : cells + rm.cells ≤ R.cells) (hs : slots + rm.slots ≤ R.slots) (eT : T.heap = h) {g : JFrame} (hg : g.method = m) (hsize : g.locals.size = c.maxLocals) (hlen : ∀ sig, parseMethodDescriptor y.desc = some sig → argsL.length = sig.parameters.length)
    (hstack : g.stack = argsL.reverse ++ .ref b :: rest) (hW : 2 * g.monitorRoom + (rest.map fun v => v.category).sum ≤ W) (hd : decode c.code g.pc = .ok (.invokespecial index, 3)) :
    ∃ v T' h' L, Stand p l e R s m args below meth c T' (locs ++ L) (cells + rm.cells) (slots + rm.slots) ∧ T'.heap = h' ∧ Q v h' L ∧ ∀ target, Steps p.tables e below (T'.setTop { g with pc := g.pc + 3, stack := v.toList ++ rest }) target → Steps p.tables e below (T.setTop g) target := by
  obtain ⟨v, _, ⟨T18, L18, k18, n18⟩, -, X18, ⟨Lc, hq, l18, y18, z18⟩, st⟩ := X.specialBack hx hy1 hown (mvT hZ w1) (mvT hZ w4) (mvT hZ w5) hy (backOf (W := W) hM hZ w5 w6 hf hl) hg hsize (Steps.refl _) hlen hstack hW hd (fun _ _ => ⟨rfl, eT, hc, hs⟩)
  dsimp only [Pt.U, Pt.locs, Pt.cells, Pt.slots] at X18 l18 y18 z18 st hq
  subst l18 y18 z18
  exact ⟨v, T18, _, Lc, X18, rfl, hq, fun _ k => st.trans k⟩
/-- arrays as lists, for System.arraycopy -/
theorem Ari.arv (F : Ari Z h a ty n f) : ∃ k, Arv Z h a k ty (Int32.ofNat n) ((List.range n).map fun j => Value.int (f j)) (.int 0) := by
  obtain ⟨cl, A, h1, h2, h3⟩ := F
  have ez : (Int32.ofNat n).toInt = n := Int32.toInt_ofNat_of_lt h2
  have h0 : ¬ Int32.ofNat n < 0 := by rw [Int32.lt_iff_toInt_lt, ez]; have : (0 : Int32).toInt = 0 := rfl; omega
  have hk : (Int32.ofNat n).toNatClampNeg = n := by have := nat_of h0; omega
  have q : ∀ i, i < n → ((List.range n).map fun j => Value.int (f j)).getD i (.int 0) = .int (f i) := fun i hi => by simp [List.getD_eq_getElem?_getD, hi]
  exact ⟨cl.cls, cl, A, rfl, by rw [hk]; exact h1, h0, fun i hi => by rw [q i (h1 ▸ hi)]; exact (h3 i (h1 ▸ hi)).1, fun i hi => by rw [q i (h1 ▸ hi)]; exact (h3 i (h1 ▸ hi)).2⟩
theorem Ari.of_arv {k : ClassId} {vs : List Value} {d : Value} {g : Nat → Int32} (F : Arv Z h a k ty (Int32.ofNat n) vs d) (hn : n < 2 ^ 31) (q : ∀ j, j < n → vs.getD j d = .int (g j)) : Ari Z h a ty n g := by
  obtain ⟨cl, A, -, h1, h0, H, G⟩ := F
  have ez : (Int32.ofNat n).toInt = n := Int32.toInt_ofNat_of_lt hn
  have hk : (Int32.ofNat n).toNatClampNeg = n := by have := nat_of h0; omega
  rw [hk] at h1
  exact ⟨cl, A, h1, hn, fun j hj => by rw [← q j hj]; exact ⟨H j (h1 ▸ hj), G j (h1 ▸ hj)⟩⟩
def blit (f g : Nat → Int32) (sp dp k : Nat) : Nat → Int32 := fun j => if dp ≤ j ∧ j < dp + k then f (sp + (j - dp)) else g j
theorem own_blit (f g : Nat → Int32) (n N sp dp k : Nat) (h1 : sp + k ≤ n) (h2 : dp + k ≤ N) (j : Nat) (hj : j < N) :
    (((List.range N).map fun j => Value.int (g j)).take dp ++ ((List.range k).map fun i => ((List.range n).map fun j => Value.int (f j)).getD (sp + i) (.int 0)) ++ ((List.range N).map fun j => Value.int (g j)).drop (dp + k)).getD j (.int 0) = .int (blit f g sp dp k j) := by
  simp only [blit, List.getD_eq_getElem?_getD]
  by_cases q1 : j < dp
  · have e : ¬ (dp ≤ j ∧ j < dp + k) := by omega
    rw [if_neg e, List.append_assoc, List.getElem?_append_left (by simp; omega)]
    simp [List.getElem?_take, q1, hj]
  · by_cases q2 : j < dp + k
    · rw [if_pos ⟨by omega, q2⟩, List.append_assoc, List.getElem?_append_right (by simp; omega), List.getElem?_append_left (by simp; omega)]
      have e1 : min dp N = dp := by omega
      have e2 : j - dp < k := by omega
      have e3 : sp + (j - dp) < n := by omega
      simp [e1, e2, e3]
    · have e : ¬ (dp ≤ j ∧ j < dp + k) := by omega
      rw [if_neg e, List.append_assoc, List.getElem?_append_right (by simp; omega), List.getElem?_append_right (by simp; omega)]
      have e1 : min dp N = dp := by omega
      have e2 : dp + k + (j - dp - k) = j := by omega
      simp [e1, e2, hj]
theorem copyI (X : Stand p l e R s m args below meth c T locs cells slots) (hx : p.tables.exec = Jvm.exec) (hZ : Z.Warmed39 s.vm) {own : String} {index : Nat} (hown : s.vm.findClass own = some m.cls)
    (w1 : (Cond.methodLink own index Jvm.Stand.acN).before a0 Z = true) (w2 : (Cond.native Jvm.Stand.acN).before a0 Z = true) (w3 : (Cond.static Jvm.Stand.acN).before a0 Z = true) (w4 : (Cond.initialized "java/lang/System").before a0 Z = true) (eT : T.heap = h)
    {N sp dp k : Nat} {g' : Nat → Int32} {zs zd zk : Int32} (A : Ari Z h a ty n f) (B : Ari Z h b ty N g') (hty : refKind ty = false) (es : zs = Int32.ofNat sp) (ed : zd = Int32.ofNat dp) (ek : zk = Int32.ofNat k) (h1 : sp + k ≤ n) (h2 : dp + k ≤ N) {n0 : Nat} (NF : Fr n0 locs) (ge : n0 ≤ b)
    {g : JFrame} (hg : g.method = m) (hsize : g.locals.size = c.maxLocals) {rest : List Value} (hs : g.stack = .int zk :: .int zd :: .ref b :: .int zs :: .ref a :: rest) (hd : decode c.code g.pc = .ok (.invokestatic index, 3))
    (hf : 1 ≤ R.frames) {W : Nat} (hW : 2 * g.monitorRoom + (rest.map fun v => v.category).sum ≤ W) (hlo : W + (nativeFrameWords "java/lang/System" "arraycopy" 5 + 11) ≤ R.locals) :
    ∃ T' h' L, Stand p l e R s m args below meth c T' L cells slots ∧ T'.heap = h' ∧ Fr n0 L ∧ Keep h h' [b] ∧ Ari Z h' b ty N (blit f g' sp dp k) ∧
      ∀ target, Steps p.tables e below (T'.setTop { g with pc := g.pc + 3, stack := rest }) target → Steps p.tables e below (T.setTop g) target := by
  have hn : n < 2 ^ 31 := by obtain ⟨_, _, _, q, _⟩ := A; exact q
  have hN : N < 2 ^ 31 := by obtain ⟨_, _, _, q, _⟩ := B; exact q
  have nz : ∀ {z : Int32} {i : Nat}, z = Int32.ofNat i → i < 2 ^ 31 → ¬ z < 0 ∧ z.toNatClampNeg = i := fun {z i} e hi => by
    have ez : z.toInt = i := by rw [e]; exact Int32.toInt_ofNat_of_lt hi
    have h0 : ¬ z < 0 := by rw [Int32.lt_iff_toInt_lt, ez]; have : (0 : Int32).toInt = 0 := rfl; omega
    exact ⟨h0, by have := nat_of h0; omega⟩
  obtain ⟨ka, VA⟩ := A.arv
  obtain ⟨kb, VB⟩ := B.arv
  obtain ⟨s1, s2⟩ := nz es (by omega)
  obtain ⟨d1, d2⟩ := nz ed (by omega)
  obtain ⟨k1, k2⟩ := nz ek (by omega)
  have n2 := (nz (rfl : Int32.ofNat n = Int32.ofNat n) hn).2
  have N2 := (nz (rfl : Int32.ofNat N = Int32.ofNat N) hN).2
  obtain ⟨T', h', L, X', e', F', K', V', st⟩ := cpA X hx hZ hown w1 w2 w3 w4 eT (sp := zs) (dp := zd) (nn := zk) VA VB (Or.inl ⟨rfl, hty⟩) s1 d1 k1 (by rw [s2, k2, n2]; exact h1) (by rw [d2, k2, N2]; exact h2) rfl (by rw [d2, k2]; simp; exact h2) NF ge hg hsize hs hd hf hW hlo
  refine ⟨T', h', L, X', e', F', K', Ari.of_arv V' hN fun j hj => ?_, st⟩
  rw [s2, d2, k2]
  exact own_blit f g' n N sp dp k h1 h2 j hj
/-- a class of objects that isn't a subclass of another one -/
theorem own_noinst {C S K : String} {ki : Nat} (w : (Cond.superclass C S).before a0 Z = true) (wr : (Cond.noSuperclass S).before a0 Z = true) (wi : (Cond.instantiable K ki).before a0 Z = true) (h1 : S ≠ K) (h2 : C ≠ K) : ∃ c t, Z.vm.findClass C = some c ∧ Z.vm.findClass K = some t ∧ Z.vm.assignable c t = false := by
  obtain ⟨t, kt, g1, g2, g3, g4, -⟩ := Cond.instantiable_spec wi
  have root : NS Z S K := by
    obtain ⟨c, k, q1, q2, q3, -, -⟩ := Cond.noSuperclass_spec wr
    have ne := ids_ne q1 g1 h1
    refine ⟨c, t, q1, g1, fun fuel => ?_⟩
    cases fuel with
    | zero => rfl
    | succ f => simp [Vm.isSubclassAux, ne, q2, q3]
  obtain ⟨c, t', h0, g0, n3⟩ := NS.step w root h2
  cases g1.symm.trans g0
  obtain ⟨p, k, kp, r1, r2, r3, r4, r5, -, r7⟩ := Cond.superclass_spec h0 w
  have ne := ids_ne h0 g1 h2
  refine ⟨c, t, h0, g1, ?_⟩
  show Z.vm.assignableAux (255 + 1) c t = false
  have gi := (Bool.or_eq_false_iff.mp g4).1
  simp [Vm.assignableAux, ne, r2, g2, r5, g3, gi, Vm.isSubclass, n3]
end OwnHeap
end Jvm.RoadKit
namespace Jvm.RoadKit
open Sem ClassFile Op Lib Jvm.Stand Jvm.Free Jvm.LawKit
section OwnStr
variable {p : Program} {l : Launch} {e : Env} {R : Room} {s : State} {m : MethodId} {args : Array Value} {below : List Frame} {meth : Method} {c : Code} {T : State} {locs : List Loc} {cells slots : Nat} {Z : State} {a0 : Array Value} {h h' : Heap} {a b : Addr} {ty : FieldType} {n : Nat} {f : Nat → Int32}
theorem own_shr0 (x : Int32) : x >>> ((0 : Int32) &&& 31) = x := by
  apply Int32.toInt_inj.mp
  rw [c_ishr x 0 0 (by decide)]
  simp
theorem own_shl0 (x : Int32) : x <<< ((0 : Int32) &&& 31) = x := by
  apply Int32.toInt_inj.mp
  have q := c_ishl x 0 0 (by decide)
  have r1 := rng32 x
  have r2 := rng32 (x <<< ((0 : Int32) &&& 31))
  simp only [Nat.pow_zero] at q
  omega
theorem own_declares {y : MethodName} {bytes : ByteArray} {maxL : Nat} {ret : Option FieldType} (w4 : (Cond.instanceMethod y).before a0 Z = true) (w5 : (Cond.code y bytes maxL ret).before a0 Z = true) : (Cond.declares y).before a0 Z = true := by
  obtain ⟨mk, methM, hnamed, hmethM, hst, hab⟩ := Cond.instanceMethod_spec w4
  obtain ⟨methM', cM, q1, -, -, -, -, -, -, hsig⟩ := Cond.code_spec hnamed w5
  cases hmethM.symm.trans q1
  simp [Cond.before, Cond.holds, Cond.value, hnamed, hmethM, hst, hsig]
theorem own_nf {y y' : MethodName} {C : String} (ws : (Cond.selects C y' y').before a0 Z = true) (hc : y'.cls = y.cls) : NotFace Z y := fun r0 h0 => by
  obtain ⟨c2, r2, m2, q1, q2, q3, q4, kP, hkP, hkPi⟩ := Cond.selects_spec ws
  have e1 := findClass_of_methodNamed q3
  have e2 := findClass_of_methodNamed h0
  rw [hc] at e1
  have e3 : m2.cls = r0.cls := Option.some.inj (e1.symm.trans e2)
  exact ⟨kP, by rw [← e3]; exact hkP, hkPi⟩
theorem own_sameM {y y' : MethodName} {C : String} (w4 : (Cond.instanceMethod y).before a0 Z = true) (ws : (Cond.selects C y' y').before a0 Z = true) (hc : y'.cls = y.cls) (hy : y.cls ≠ "java/lang/invoke/MethodHandle" ∧ y.cls ≠ "java/lang/invoke/VarHandle") : (Cond.sameMethod y.cls y.cls y.name y.desc).before a0 Z = true := by
  obtain ⟨mk, methM, hnamed, hmethM, hst, hab⟩ := Cond.instanceMethod_spec w4
  have hfound := State.methodFound?_of_named hnamed hy
  have e2 := findClass_of_methodNamed hnamed
  obtain ⟨kr, hk, hi⟩ := own_nf ws hc mk hnamed
  have hn' : Z.methodNamed? ⟨y.cls, y.name, y.desc⟩ = some mk := hnamed
  simp [Cond.before, Cond.holds, Cond.value, e2, hfound, hn', hk, hi]
/-- a body that returns r (or nothing) and leaves the heap as it was -/
def PQ (h0 : Heap) (r : Option Value) (v : Option Value) (h : Heap) (L : List Loc) : Prop := v = r ∧ L = [] ∧ h = h0
theorem callXS (X : Stand p l e R s m args below meth c T locs cells slots) (hx : p.tables.exec = Jvm.exec) (hZ : Z.Warmed39 s.vm) {own C : String} {index : Nat} {y : MethodName} {bytes : ByteArray} {maxL : Nat} {ret : Option FieldType} (hown : s.vm.findClass own = some m.cls)
    (w1 : (Cond.methodLink own index y).before a0 Z = true) (w2 : (Cond.sameMethod y.cls y.cls y.name y.desc).before a0 Z = true) (w3 : (Cond.instanceMethod y).before a0 Z = true) (w4 : (Cond.superclass own y.cls).before a0 Z = true) (w5 : (Cond.code y bytes maxL ret).before a0 Z = true) (w6 : (Cond.initialized y.cls).before a0 Z = true) (hn : y.name ≠ "<init>")
    {rm : Room} {W : Nat} {argsL rest : List Value} {Q : Option Value → Heap → List Loc → Prop}
    (hM : MetFree l y (head1 [Cond.code y bytes maxL ret] rm) (fun a U => a = (.ref b :: argsL).toArray ∧ Z.Warmed39 U.vm ∧ U.heap = h) (fun _ _ _ _ _ => True) (fun _ U o U' => ∃ v L, o = .returned v ∧ Q v U'.heap L ∧ FrameEnd U o U' L rm.cells rm.slots))
    (hf : rm.frames + 1 ≤ R.frames) (hl : W + (maxL + 11) + rm.locals ≤ R.locals) (hc : cells + rm.cells ≤ R.cells) (hs : slots + rm.slots ≤ R.slots) (eT : T.heap = h) (E : Exa Z h b C) {g : JFrame} (hg : g.method = m) (hsize : g.locals.size = c.maxLocals) (hlen : ∀ sig, parseMethodDescriptor y.desc = some sig → argsL.length = sig.parameters.length)
    (hstack : g.stack = argsL.reverse ++ .ref b :: rest) (hW : 2 * g.monitorRoom + (rest.map fun v => v.category).sum ≤ W) (hd : decode c.code g.pc = .ok (.invokespecial index, 3)) :
    ∃ v T' h' L, Stand p l e R s m args below meth c T' (locs ++ L) (cells + rm.cells) (slots + rm.slots) ∧ T'.heap = h' ∧ Q v h' L ∧ ∀ target, Steps p.tables e below (T'.setTop { g with pc := g.pc + 3, stack := v.toList ++ rest }) target → Steps p.tables e below (T.setTop g) target := by
  obtain ⟨v, _, ⟨T18, L18, k18, n18⟩, -, X18, ⟨Lc, hq, l18, y18, z18⟩, st⟩ := superBack X hx hZ hown w1 w2 w3 w4 hn (backOf (W := W) hM hZ w5 w6 hf hl) eT (Ins.self E) hg hsize w5 hlen hstack hW hd (fun _ _ => ⟨rfl, eT, hc, hs⟩)
  dsimp only [Pt.U, Pt.locs, Pt.cells, Pt.slots] at X18 l18 y18 z18 st hq
  subst l18 y18 z18
  exact ⟨v, T18, _, Lc, X18, rfl, hq, fun _ k => st.trans k⟩
/-- what a call of such a body leaves -/
theorem own_pure {F W0 : Nat} {g : JFrame} {rest : List Value} {r : Option Value} {Q : Option Value → Heap → List Loc → Prop} (hQ : ∀ v h' L, Q v h' L → PQ h r v h' L)
    (q : ∃ v T' h' L, Stand p l e R s m args below meth c T' (locs ++ L) (cells + ({ frames := F, cells := 0, slots := 0, locals := W0 } : Room).cells) (slots + ({ frames := F, cells := 0, slots := 0, locals := W0 } : Room).slots) ∧ T'.heap = h' ∧ Q v h' L ∧ ∀ target, Steps p.tables e below (T'.setTop { g with pc := g.pc + 3, stack := v.toList ++ rest }) target → Steps p.tables e below (T.setTop g) target) :
    ∃ T', Stand p l e R s m args below meth c T' locs cells slots ∧ T'.heap = h ∧ ∀ target, Steps p.tables e below (T'.setTop { g with pc := g.pc + 3, stack := r.toList ++ rest }) target → Steps p.tables e below (T.setTop g) target := by
  obtain ⟨v, T', h', L, X', e', hq, st⟩ := q
  obtain ⟨rfl, rfl, rfl⟩ := hQ _ _ _ hq
  rw [List.append_nil] at X'
  exact ⟨T', X', e', st⟩
/-- a new array, with its class -/
theorem newIE (X : Stand p l e R s m args below meth c T locs cells slots) (hx : p.tables.exec = Jvm.exec) (hZ : Z.Warmed39 s.vm) {aty : ArrayType} (w : (Cond.arrayClass (newarray.typeOf aty)).before a0 Z = true) (eT : T.heap = h) {g : JFrame} (hg : g.method = m) (hd : decode c.code g.pc = .ok (.newarray aty, 2)) {z : Int32} {rest : List Value} (hs : g.stack = .int z :: rest)
    {N : Nat} (hz : z = Int32.ofNat N) {cap : Nat} (hcap : N ≤ cap) (hb : cap * 8 ≤ 536870912) (hc : cells + 1 ≤ R.cells) (hl : slots + cap ≤ R.slots) (hdv : defaultValue (newarray.typeOf aty) = .int 0) (hft : fits (newarray.typeOf aty) (.int 0) = true) {ad : String} (had : "[" ++ (newarray.typeOf aty).toString = ad) :
    ∃ T' h', Stand p l e R s m args below meth c T' locs (cells + 1) (slots + cap) ∧ T'.heap = h' ∧ Ext h h' ∧ Ari Z h' h.size (newarray.typeOf aty) N (fun _ => 0) ∧ Exa Z h' h.size ad ∧ ∀ target, Steps p.tables e below (T'.setTop { g with pc := g.pc + 2, stack := .ref h.size :: rest }) target → Steps p.tables e below (T.setTop g) target := by
  have hN : N < 2 ^ 31 := by omega
  have ez : z.toInt = N := by rw [hz]; exact Int32.toInt_ofNat_of_lt hN
  have h0 : ¬ z < 0 := by rw [Int32.lt_iff_toInt_lt, ez]; have : (0 : Int32).toInt = 0 := rfl; omega
  have hn : z.toNatClampNeg = N := by have := nat_of h0; omega
  obtain ⟨T', h', cA, X', e', E, A, EA, st⟩ := newPE X hx hZ w eT hg hd hs h0 (cap := cap) (by omega) hb hc hl had
  refine ⟨T', h', X', e', E, ⟨_, A, by rw [sz_new, hn], hN, fun j hj => ⟨?_, hft⟩⟩, EA, st⟩
  simp [newA, hn, hj, hdv]
/-- clone() of a byte[] -/
theorem cloneI (X : Stand p l e R s m args below meth c T locs cells slots) (hx : p.tables.exec = Jvm.exec) (hZ : Z.Warmed39 s.vm) {own ad : String} {index : Nat} (hown : s.vm.findClass own = some m.cls)
    (w1 : (Cond.methodLink own index ⟨ad, "clone", "()Ljava/lang/Object;"⟩).before a0 Z = true) (w2 : (Cond.sameMethod ad "java/lang/Object" "clone" "()Ljava/lang/Object;").before a0 Z = true) (w3 : (Cond.native ⟨"java/lang/Object", "clone", "()Ljava/lang/Object;"⟩).before a0 Z = true)
    (w4 : (Cond.instanceMethod ⟨"java/lang/Object", "clone", "()Ljava/lang/Object;"⟩).before a0 Z = true) (w5 : (Cond.selects ad ⟨ad, "clone", "()Ljava/lang/Object;"⟩ ⟨"java/lang/Object", "clone", "()Ljava/lang/Object;"⟩).before a0 Z = true) (w6 : (Cond.castable ad "java/lang/Cloneable").before a0 Z = true)
    (eT : T.heap = h) (F : Ari Z h a ty n f) (E : Exa Z h a ad) {g : JFrame} (hg : g.method = m) (hsize : g.locals.size = c.maxLocals) {rest : List Value} (hst : g.stack = .ref a :: rest) (hd : decode c.code g.pc = .ok (.invokevirtual index, 3))
    (hf : 1 ≤ R.frames) {W cap : Nat} (hW : 2 * g.monitorRoom + (rest.map fun v => v.category).sum ≤ W) (hl : W + 14 ≤ R.locals) (hcap : n ≤ cap) (hc : cells + 1 ≤ R.cells) (hsl : slots + cap ≤ R.slots) :
    ∃ T' h', Stand p l e R s m args below meth c T' locs (cells + 1) (slots + cap) ∧ T'.heap = h' ∧ Ext h h' ∧ Ari Z h' h.size ty n f ∧ Exa Z h' h.size ad ∧
      ∀ target, Steps p.tables e below (T'.setTop { g with pc := g.pc + 3, stack := .ref h.size :: rest }) target → Steps p.tables e below (T.setTop g) target := by
  have hN : n < 2 ^ 31 := by obtain ⟨_, _, _, q, _⟩ := F; exact q
  obtain ⟨k, V⟩ := F.arv
  have ez : (Int32.ofNat n).toInt = n := Int32.toInt_ofNat_of_lt hN
  have h0 : ¬ Int32.ofNat n < 0 := by rw [Int32.lt_iff_toInt_lt, ez]; have : (0 : Int32).toInt = 0 := rfl; omega
  have hk : (Int32.ofNat n).toNatClampNeg = n := by have := nat_of h0; omega
  obtain ⟨T', h', X', e', Ex, A', E', st⟩ := cloneH X hx hZ hown w1 w2 w3 w4 w5 w6 eT V.arh E hg hsize hst hd hf hW hl (by rw [hk]; exact hcap) hc hsl
  refine ⟨T', h', X', e', Ex, Ari.of_arv (k := k) (vs := (List.range n).map fun j => Value.int (f j)) (d := .int 0) A' hN fun j hj => ?_, E', st⟩
  simp [List.getD_eq_getElem?_getD, hj]
/-- what is left of a body that may intern a constant -/
def GoesW (p : Program) (e : Env) (below : List Frame) (s : State) (K N : Nat) (Q : Option Value → Heap → List Loc → Prop) (T : State) (g : JFrame) : Prop :=
  ∃ s₂ o, Steps p.tables e below (T.setTop g) s₂ ∧ s₂.status = .running ∧ Ended s₂ below o ∧ ∃ v L, o = .returned v ∧ Q v s₂.heap L ∧ ReturnedEndW s o s₂ L K N
theorem GoesW.step {K N : Nat} {Q : Option Value → Heap → List Loc → Prop} {T' : State} {g g' : JFrame} (k : ∀ t, Steps p.tables e below (T'.setTop g') t → Steps p.tables e below (T.setTop g) t) (h : GoesW p e below s K N Q T' g') : GoesW p e below s K N Q T g := by
  obtain ⟨s₂, o, h1, h2⟩ := h
  exact ⟨s₂, o, k _ h1, h2⟩
theorem GoesW.outN {vm₁ : Vm} {k1 : Nat} (X : Stand p l e R (s.setVm vm₁) m args below meth c T locs cells slots) (hS : s.Since vm₁ k1) (hn1 : k1 ≤ T.heap.size) (hx : p.tables.exec = Jvm.exec) (hlk : meth.locks = false) {t : FieldType} (hret : meth.sig.returnType = some t) (ht : t = .boolean ∨ t = .byte ∨ t = .char ∨ t = .short) {pc : Nat} (hd : decode c.code pc = .ok (.ireturn, 1)) {Ls : Array Slot} {z : Int32} {rest : List Value} {K N : Nat} {Q : Option Value → Heap → List Loc → Prop}
    (hq : Q (some (.int (nar t z))) T.heap locs) (hk : cells ≤ K) (hn : slots ≤ N) : GoesW p e below s K N Q T (mkF m pc Ls (.int z :: rest)) := by
  obtain ⟨fs, hr, hrun, hended, w1, w2, w3, w4⟩ := X.leaveW hS hn1 (v := some (.int (nar t z))) (fun h => by rw [hret] at h; cases h) hlk
  exact ⟨_, _, retN X hx hret ht hd hr, hrun, hended, _, _, rfl, hq, w1, w2, w3, w4.mono hk hn⟩
theorem GoesW.outR {vm₁ : Vm} {k1 : Nat} (X : Stand p l e R (s.setVm vm₁) m args below meth c T locs cells slots) (hS : s.Since vm₁ k1) (hn1 : k1 ≤ T.heap.size) (hx : p.tables.exec = Jvm.exec) (hlk : meth.locks = false) {t : FieldType} (hret : meth.sig.returnType = some t) (ht : t.isReference = true) {w : Value} (hw : w.isRef = true) {pc : Nat} (hd : decode c.code pc = .ok (.areturn, 1)) {Ls : Array Slot} {K N : Nat} {Q : Option Value → Heap → List Loc → Prop}
    (hq : Q (some w) T.heap locs) (hk : cells ≤ K) (hn : slots ≤ N) : GoesW p e below s K N Q T (mkF m pc Ls [w]) := by
  obtain ⟨fs, hr, hrun, hended, w1, w2, w3, w4⟩ := X.leaveW hS hn1 (v := some w) (fun h => by rw [hret] at h; cases h) hlk
  exact ⟨_, _, X.areturnOut hx hw hret ht hd hr, hrun, hended, _, _, rfl, hq, w1, w2, w3, w4.mono hk hn⟩
/-- a static call of a body that may intern -/
theorem callXW (X : Stand p l e R s m args below meth c T locs cells slots) (hx : p.tables.exec = Jvm.exec) (hZ : Z.Warmed39 s.vm) (hI : s.vm.interned = Z.vm.interned) {own : String} {index : Nat} {y : MethodName} {bytes : ByteArray} {maxL : Nat} {ret : Option FieldType} (hown : s.vm.findClass own = some m.cls)
    (w1 : (Cond.methodLink own index y).before a0 Z = true) (w2 : (Cond.static y).before a0 Z = true) (w3 : (Cond.initialized y.cls).before a0 Z = true) (w4 : (Cond.code y bytes maxL ret).before a0 Z = true) (hy : y.cls ≠ "java/lang/invoke/MethodHandle" ∧ y.cls ≠ "java/lang/invoke/VarHandle")
    {rm : Room} {W : Nat} {argsL rest : List Value} {Q : Option Value → Heap → List Loc → Prop}
    (hM : MetFree l y (head1 [Cond.code y bytes maxL ret] rm) (fun a U => a = argsL.toArray ∧ Z.Warmed39 U.vm ∧ U.heap = h ∧ U.vm.interned = Z.vm.interned) (fun _ _ _ _ _ => True) (fun _ U o U' => ∃ v L, o = .returned v ∧ Q v U'.heap L ∧ ReturnedEndW U o U' L rm.cells rm.slots))
    (hf : rm.frames + 1 ≤ R.frames) (hl : W + (maxL + 11) + rm.locals ≤ R.locals) (hc : cells + rm.cells ≤ R.cells) (hs : slots + rm.slots ≤ R.slots) (eT : T.heap = h) {g : JFrame} (hg : g.method = m) (hsize : g.locals.size = c.maxLocals) (hlen : ∀ sig, parseMethodDescriptor y.desc = some sig → argsL.length = sig.parameters.length)
    (hstack : g.stack = argsL.reverse ++ rest) (hW : 2 * g.monitorRoom + (rest.map fun v => v.category).sum ≤ W) (hd : decode c.code g.pc = .ok (.invokestatic index, 3)) :
    ∃ v T' h' L, Stand p l e R (s.setVm T'.vm) m args below meth c T' (locs ++ L) (cells + rm.cells) (slots + rm.slots) ∧ T'.heap = h' ∧ s.Since T'.vm T'.heap.size ∧ Z.Warmed39 (s.setVm T'.vm).vm ∧ (s.setVm T'.vm).vm.findClass own = some m.cls ∧ Q v h' L ∧ ∀ target, Steps p.tables e below (T'.setTop { g with pc := g.pc + 3, stack := v.toList ++ rest }) target → Steps p.tables e below (T.setTop g) target := by
  have B : BackS l R p e below s args y 3 W (fun A a => a = argsL.toArray ∧ A.U.heap = h ∧ A.cells + rm.cells ≤ R.cells ∧ A.slots + rm.slots ≤ R.slots) (fun A _ v B => ∃ L, Q v B.U.heap L ∧ B.locs = A.locs ++ L ∧ B.cells = A.cells + rm.cells ∧ B.slots = A.slots + rm.slots) :=
    BackS.of_freeW (bytes := bytes) (maxL := maxL) (ret := ret) (E := fun _ _ o t L k n => k = rm.cells ∧ n = rm.slots ∧ ∃ v, o = .returned v ∧ Q v t.heap L) hM hf hl
      (fun m meth c A a Y hp => ⟨by show (Cond.and _ .tt).before a A.U = true; rw [Cond.before_and, mv (wtrans hZ Y.warmed) w4]; rfl, mv (wtrans hZ Y.warmed) w4, mv (wtrans hZ Y.warmed) w3, hp.2.2.1, hp.2.2.2⟩)
      (fun m meth c A a g mk Y hp => ⟨hp.1, wtrans hZ Y.warmed, hp.2.1, Y.warmed.interned_eq.trans hI⟩) (fun _ _ _ _ _ _ _ _ _ => trivial)
      (fun _ _ _ _ ⟨v, L, h1, h2, h3⟩ => ⟨L, _, _, h3, rfl, rfl, v, h1, h2⟩)
      (fun m meth c A a g mk v t L k n Y hp _ _ ⟨e1, e2, v', e3, e4⟩ => by cases e3; subst e1 e2; exact ⟨L, e4, rfl, rfl, rfl⟩)
  obtain ⟨v, _, ⟨T18, L18, k18, n18⟩, -, X18, hS, -, ⟨Lc, hq, l18, y18, z18⟩, st⟩ := callSS X hx hown (mvT hZ w1) (mvT hZ w2) (mvT hZ w3) (mvT hZ w4) hy B hg hsize hlen hstack hW hd (fun _ _ => ⟨rfl, eT, hc, hs⟩)
  dsimp only [Pt.U, Pt.locs, Pt.cells, Pt.slots] at X18 l18 y18 z18 st hq hS
  subst l18 y18 z18
  exact ⟨v, T18, _, Lc, X18, rfl, hS, State.Warmed39.trans (t := s) hZ hS.1, by rw [show (s.setVm T18.vm).vm = T18.vm from rfl, hS.1.alike.findClass]; exact hown, hq, fun _ k => st.trans k⟩
/-- a String constant: place j of its bytes -/
def strF (text : String) : Nat → Int32 := fun j => (text.toList.map fun c => Jvm.Lit.byteI c.toNat.toUInt16).getD j 0
theorem ldcI {vm0 : Vm} {own text : String} {index k0 : Nat} {Ts : List String} (X : Stand p l e R (s.setVm vm0) m args below meth c T locs cells slots) (hx : p.tables.exec = Jvm.exec) (hZ : Z.Warmed39 vm0) (hown : vm0.findClass own = some m.cls) (w : (Cond.stringLink own index text).before a0 Z = true) (wS : ∀ a ∈ Bundle.stringAtoms, a.before a0 Z = true)
    (eT : T.heap = h) (hS : s.Since vm0 k0) (hk : k0 ≤ h.size) (N : Fr s.heap.size locs) (hkeep : ∀ (b : Addr) (cl : Cell), Z.heap[b]? = some cl → s.heap[b]? = some cl) (I : IB Z vm0 Ts) (hnot : text ∉ Ts) (hh : Jvm.Lit.constHeld Z own index) (hcw : Jvm.Lit.compactW.before a0 Z = true)
    (ht : ∀ c ∈ text.toList, c.toNat < 256) (hlen : text.toList.length = n) (hN : n < 2 ^ 31)
    {g : JFrame} (hg : g.method = m) (hd : decode c.code g.pc = .ok (.ldc index, 2)) {q : Nat} (hn : 4 * text.toList.length ≤ q) (hbig : q ≤ 536870912) (hc : cells + 2 ≤ R.cells) (hl' : slots + (q + 4) ≤ R.slots) :
    ∃ (a : Addr) (T' : State) (h' : Heap) (k1 : Nat) (b : Addr), Stand p l e R (s.setVm T'.vm) m args below meth c T' locs (cells + 2) (slots + (q + 4)) ∧ T'.heap = h' ∧ Ext h h' ∧ s.Since T'.vm k1 ∧ k1 ≤ h'.size ∧ Z.Warmed39 (s.setVm T'.vm).vm ∧ (s.setVm T'.vm).vm.findClass own = some m.cls ∧
      Exa Z h' a "java/lang/String" ∧ Fld Z h' a "java/lang/String" "coder" "B" (.int 0) ∧ Fld Z h' a "java/lang/String" "value" "[B" (.ref b) ∧ Ari Z h' b .byte n (strF text) ∧ IB Z T'.vm (text :: Ts) ∧ Lit (s.setVm T'.vm) own index a ∧
      ∀ target, Steps p.tables e below (T'.setTop { g with pc := g.pc + 2, stack := .ref a :: g.stack }) target → Steps p.tables e below (T.setTop g) target := by
  have ez : (Int32.ofNat n).toInt = n := Int32.toInt_ofNat_of_lt hN
  have h0 : ¬ Int32.ofNat n < 0 := by rw [Int32.lt_iff_toInt_lt, ez]; have : (0 : Int32).toInt = 0 := rfl; omega
  have hk' : (Int32.ofNat n).toNatClampNeg = n := by have := nat_of h0; omega
  obtain ⟨a, T', h', k1, b, k, r1, r2, r3, r4, r5, r6, r7, r8, r9, r10, r11, r12, r13, r14, r15, r16⟩ := ldcSVL X hx hZ hown w wS eT hS hk N hkeep I hnot hh hcw (z := Int32.ofNat n) ⟨ht, rfl⟩ h0 (by rw [hk']; simp [hlen]) hg hd hn hbig hc hl'
  refine ⟨a, T', h', k1, b, r1, r2, r3, r4, r5, r6, r7, r8, r9, r10, Ari.of_arv r11 hN fun j hj => ?_, r14, r15, r16⟩
  have hj' : j < text.toList.length := by omega
  simp [strF, List.getD_eq_getElem?_getD, hj']
end OwnStr
end Jvm.RoadKit
namespace Jvm.RoadKit
open Sem ClassFile Op Lib Jvm.Stand Jvm.Free Jvm.LawKit
section OwnStr2
variable {p : Program} {l : Launch} {e : Env} {R : Room} {s : State} {m : MethodId} {args : Array Value} {below : List Frame} {meth : Method} {c : Code} {T : State} {locs : List Loc} {cells slots : Nat} {Z : State} {a0 : Array Value} {h h' : Heap} {a b : Addr} {ty : FieldType} {n : Nat} {f : Nat → Int32}
theorem rdC (X : Stand p l e R s m args below meth c T locs cells slots) (hx : p.tables.exec = Jvm.exec) (hZ : Z.Warmed39 s.vm) (eT : T.heap = h) (A : Ari Z h a .char n f) {j : Int32} (i : Nat) (hj : j = Int32.ofNat i) (hi : i < n) {g : JFrame} (hg : g.method = m) {rest : List Value} (hs : g.stack = .int j :: .ref a :: rest) (hd : decode c.code g.pc = .ok (.caload, 1)) :
    ∀ target, Steps p.tables e below (T.setTop { g with pc := g.pc + 1, stack := .int (f i) :: rest }) target → Steps p.tables e below (T.setTop g) target := by
  obtain ⟨cl, A1, h1, h2, h3⟩ := A
  obtain ⟨q1, q2⟩ := own_in hj hi h2
  intro target k
  exact X.caload hx (by rw [eT]; exact A1.1) (State.isArrayOf_alike hZ.alike A1.2.1) A1.2.2 (by rw [h1]; exact q1) (by rw [q2]; exact (h3 i hi).1) hg hs hd _ k
theorem GoesW.outV {vm₁ : Vm} {k1 : Nat} (X : Stand p l e R (s.setVm vm₁) m args below meth c T locs cells slots) (hS : s.Since vm₁ k1) (hn1 : k1 ≤ T.heap.size) (hx : p.tables.exec = Jvm.exec) (hlk : meth.locks = false) (hret : meth.sig.returnType = none) {pc : Nat} (hd : decode c.code pc = .ok (.return_, 1)) {Ls : Array Slot} {K N : Nat} {Q : Option Value → Heap → List Loc → Prop}
    (hq : Q none T.heap locs) (hk : cells ≤ K) (hn : slots ≤ N) : GoesW p e below s K N Q T (mkF m pc Ls []) := by
  obtain ⟨fs, hr, hrun, hended, w1, w2, w3, w4⟩ := X.leaveW hS hn1 (v := none) (fun _ => rfl) hlk
  exact ⟨_, _, X.returnOut hx hret hd hr, hrun, hended, _, _, rfl, hq, w1, w2, w3, w4.mono hk hn⟩
/-- a constructor that may intern -/
theorem callXIW (X : Stand p l e R s m args below meth c T locs cells slots) (hx : p.tables.exec = Jvm.exec) (hZ : Z.Warmed39 s.vm) (hI : s.vm.interned = Z.vm.interned) {own : String} {index : Nat} {y : MethodName} {bytes : ByteArray} {maxL : Nat} (hown : s.vm.findClass own = some m.cls) (hy1 : y.name = "<init>")
    (w1 : (Cond.methodLink own index y).before a0 Z = true) (w2 : (Cond.instanceMethod y).before a0 Z = true) (w4 : (Cond.code y bytes maxL none).before a0 Z = true) (w3 : (Cond.initialized y.cls).before a0 Z = true) (hy : y.cls ≠ "java/lang/invoke/MethodHandle" ∧ y.cls ≠ "java/lang/invoke/VarHandle")
    {rm : Room} {W : Nat} {argsL rest : List Value} {Q : Option Value → Heap → List Loc → Prop}
    (hM : MetFree l y (head1 [Cond.code y bytes maxL none] rm) (fun a U => a = (.ref b :: argsL).toArray ∧ Z.Warmed39 U.vm ∧ U.heap = h ∧ U.vm.interned = Z.vm.interned) (fun _ _ _ _ _ => True) (fun _ U o U' => ∃ v L, o = .returned v ∧ Q v U'.heap L ∧ ReturnedEndW U o U' L rm.cells rm.slots))
    (hf : rm.frames + 1 ≤ R.frames) (hl : W + (maxL + 11) + rm.locals ≤ R.locals) (hc : cells + rm.cells ≤ R.cells) (hs : slots + rm.slots ≤ R.slots) (eT : T.heap = h) {g : JFrame} (hg : g.method = m) (hsize : g.locals.size = c.maxLocals) (hlen : ∀ sig, parseMethodDescriptor y.desc = some sig → argsL.length = sig.parameters.length)
    (hstack : g.stack = argsL.reverse ++ .ref b :: rest) (hW : 2 * g.monitorRoom + (rest.map fun v => v.category).sum ≤ W) (hd : decode c.code g.pc = .ok (.invokespecial index, 3)) :
    ∃ v T' h' L, Stand p l e R (s.setVm T'.vm) m args below meth c T' (locs ++ L) (cells + rm.cells) (slots + rm.slots) ∧ T'.heap = h' ∧ s.Since T'.vm T'.heap.size ∧ Z.Warmed39 (s.setVm T'.vm).vm ∧ (s.setVm T'.vm).vm.findClass own = some m.cls ∧ Q v h' L ∧ ∀ target, Steps p.tables e below (T'.setTop { g with pc := g.pc + 3, stack := v.toList ++ rest }) target → Steps p.tables e below (T.setTop g) target := by
  have B : BackS l R p e below s args y 3 W (fun A a => a = (.ref b :: argsL).toArray ∧ A.U.heap = h ∧ A.cells + rm.cells ≤ R.cells ∧ A.slots + rm.slots ≤ R.slots) (fun A _ v B => ∃ L, Q v B.U.heap L ∧ B.locs = A.locs ++ L ∧ B.cells = A.cells + rm.cells ∧ B.slots = A.slots + rm.slots) :=
    BackS.of_freeW (bytes := bytes) (maxL := maxL) (ret := none) (E := fun _ _ o t L k n => k = rm.cells ∧ n = rm.slots ∧ ∃ v, o = .returned v ∧ Q v t.heap L) hM hf hl
      (fun m meth c A a Y hp => ⟨by show (Cond.and _ .tt).before a A.U = true; rw [Cond.before_and, mv (wtrans hZ Y.warmed) w4]; rfl, mv (wtrans hZ Y.warmed) w4, mv (wtrans hZ Y.warmed) w3, hp.2.2.1, hp.2.2.2⟩)
      (fun m meth c A a g mk Y hp => ⟨hp.1, wtrans hZ Y.warmed, hp.2.1, Y.warmed.interned_eq.trans hI⟩) (fun _ _ _ _ _ _ _ _ _ => trivial)
      (fun _ _ _ _ ⟨v, L, h1, h2, h3⟩ => ⟨L, _, _, h3, rfl, rfl, v, h1, h2⟩)
      (fun m meth c A a g mk v t L k n Y hp _ _ ⟨e1, e2, v', e3, e4⟩ => by cases e3; subst e1 e2; exact ⟨L, e4, rfl, rfl, rfl⟩)
  obtain ⟨v, _, ⟨T18, L18, k18, n18⟩, -, X18, hS, -, ⟨Lc, hq, l18, y18, z18⟩, st⟩ := X.specialBackS hx hy1 hown (mvT hZ w1) (mvT hZ w2) (mvT hZ w4) hy B hg hsize (Steps.refl _) hlen hstack hW hd (fun _ _ => ⟨rfl, eT, hc, hs⟩)
  dsimp only [Pt.U, Pt.locs, Pt.cells, Pt.slots] at X18 l18 y18 z18 st hq hS
  subst l18 y18 z18
  exact ⟨v, T18, _, Lc, X18, rfl, hS, State.Warmed39.trans (t := s) hZ hS.1, by rw [show (s.setVm T18.vm).vm = T18.vm from rfl, hS.1.alike.findClass]; exact hown, hq, fun _ k => st.trans k⟩
end OwnStr2
end Jvm.RoadKit
namespace Jvm.Pilot.@@N@@
open Jvm Jvm.ClassFile Sem Op Lib Jvm.Free Jvm.Stand Jvm.LawKit Jvm.RoadKit Bundle Jvm.Pilot.@@N@@.Jvm.D
theorem d7_0 : decode method_2_code 0 = .ok (.iload_n 0, 1) := by decide +kernel
theorem d7_1 : decode method_2_code 1 = .ok (.bipush 32, 2) := by decide +kernel
theorem d7_3 : decode method_2_code 3 = .ok (.if_icmp .ge 5, 3) := by decide +kernel
theorem d7_6 : decode method_2_code 6 = .ok (.iconst 1, 1) := by decide +kernel
theorem d7_7 : decode method_2_code 7 = .ok (.ireturn, 1) := by decide +kernel
theorem d7_8 : decode method_2_code 8 = .ok (.iload_n 0, 1) := by decide +kernel
theorem d7_9 : decode method_2_code 9 = .ok (.bipush 127, 2) := by decide +kernel
theorem d7_11 : decode method_2_code 11 = .ok (.if_icmp .ge 5, 3) := by decide +kernel
theorem d7_14 : decode method_2_code 14 = .ok (.iconst 0, 1) := by decide +kernel
theorem d7_15 : decode method_2_code 15 = .ok (.ireturn, 1) := by decide +kernel
theorem d7_16 : decode method_2_code 16 = .ok (.iload_n 0, 1) := by decide +kernel
theorem d7_17 : decode method_2_code 17 = .ok (.sipush 160, 3) := by decide +kernel
theorem d7_20 : decode method_2_code 20 = .ok (.if_icmp .ge 5, 3) := by decide +kernel
theorem d7_23 : decode method_2_code 23 = .ok (.iconst 1, 1) := by decide +kernel
theorem d7_24 : decode method_2_code 24 = .ok (.ireturn, 1) := by decide +kernel
theorem d7_25 : decode method_2_code 25 = .ok (.iconst 0, 1) := by decide +kernel
theorem d7_26 : decode method_2_code 26 = .ok (.ireturn, 1) := by decide +kernel
theorem pn_7 : plainName "com/example/cartouche/cartouche/ControlCharactersIndexInPinLaw" = true := by first | (simp [plainName, overriddenIn]; done) | decide +kernel
theorem ef_7 (m : MethodId) (p1 : Int32) : entryFrame m #[(.int p1)] 1 = mkF m 0 #[.val (.int p1)] [] := by first | (simp [entryFrame, mkF, argsToLocals, Value.category]; done) | rfl
def f7 (p1 : Int32) : Int32 := (if (p1 < (32 : Int32)) then (1 : Int32) else (if (p1 < (127 : Int32)) then (0 : Int32) else (if (p1 < (160 : Int32)) then (1 : Int32) else (0 : Int32))))
set_option maxRecDepth 65536 in
set_option maxHeartbeats 40000000 in
theorem rm7 (l : Launch) (Z : State) (a0 : Array Value) (hw : ∀ d ∈ tables_1, d.before a0 Z = true) (ws : List Jvm.Cond) (p1 : Int32) (h0 : Heap)  :
    MetFree l (⟨"com/example/cartouche/cartouche/ControlCharactersIndexInPinLaw", "ctrl", "(C)Z"⟩ : MethodName) (head1 (Jvm.Cond.code (⟨"com/example/cartouche/cartouche/ControlCharactersIndexInPinLaw", "ctrl", "(C)Z"⟩ : MethodName) method_2_code 1 (some .boolean) :: ws) ({ frames := 0, cells := 0, slots := 0, locals := 0 } : Room)) (fun a U => a = #[(.int p1)] ∧ Z.Warmed39 U.vm ∧ U.heap = h0) (fun _ _ _ _ _ => True) (fun _ U o U' => ∃ v L, o = .returned v ∧ PI h0 (f7 p1) v U'.heap L ∧ FrameEnd U o U' L ({ frames := 0, cells := 0, slots := 0, locals := 0 } : Room).cells ({ frames := 0, cells := 0, slots := 0, locals := 0 } : Room).slots) := by
  refine MetFree.of_bodySF (plainFor_of_name pn_7) hisR ?_
  intro p e s m args below meth c s₁ Bd hml0 hP hK
  obtain ⟨rfl, hZ, hh⟩ := hP
  have hx := Bd.exec
  have hby := Bd.bytes
  have hlk := Bd.notSynchronized
  have hml : c.maxLocals = 1 := hml0
  have hown : s.vm.findClass "com/example/cartouche/cartouche/ControlCharactersIndexInPinLaw" = some m.cls := findClass_of_methodNamed Bd.named
  have X0 : Stand p l e ({ frames := 0, cells := 0, slots := 0, locals := 0 } : Room) s m #[(.int p1)] below meth c s₁ [] 0 0 := Stand.of_body Bd
  have e0 : s₁.heap = h0 := by rw [← hh, Bd.state]; rfl
  show Goes p e below s ({ frames := 0, cells := 0, slots := 0, locals := 0 } : Room).cells ({ frames := 0, cells := 0, slots := 0, locals := 0 } : Room).slots (PI h0 (f7 p1)) s₁ (entryFrame m #[(.int p1)] 1)
  refine Goes.step (fun t k => castTop (ef_7 m p1) k) ?_
  refine Goes.step (fun _ k => XS.iloadN X0.here hx rfl (hb hby d7_0) rfl k) ?_
  show Goes p e below s _ _ _ s₁ (mkF m 1 #[.val (.int p1)] [(.int p1)])
  refine Goes.step (fun _ k => XS.bipush X0.here hx rfl (hb hby d7_1) k) ?_
  show Goes p e below s _ _ _ s₁ (mkF m 3 #[.val (.int p1)] [(.int (32 : Int32)), (.int p1)])
  refine Goes.ite (Q := PI h0) (fun hc3 => ?_) (fun hc3 => ?_)
  · refine Goes.step (fun _ k => XS.icmpNo X0.here hx rfl (hb hby d7_3) rfl (tlt hc3).2.1 k) ?_
    show Goes p e below s _ _ _ s₁ (mkF m 6 #[.val (.int p1)] [])
    refine Goes.step (fun _ k => XS.iconst X0.here hx rfl (hb hby d7_6) k) ?_
    show Goes p e below s _ _ _ s₁ (mkF m 7 #[.val (.int p1)] [(.int (1 : Int32))])
    exact Goes.outN X0 hx hlk (t := .boolean) Bd.returns (by simp) (hb hby d7_7) ⟨rfl, rfl, e0⟩ (by decide) (by decide)
  · refine Goes.step (fun _ k => XS.icmpYes X0.here hx rfl (pc0 := 3) (pc' := 8) rfl (hb hby d7_3) rfl (flt hc3).2.1 (by decide) (by decide) k) ?_
    show Goes p e below s _ _ _ s₁ (mkF m 8 #[.val (.int p1)] [])
    refine Goes.step (fun _ k => XS.iloadN X0.here hx rfl (hb hby d7_8) rfl k) ?_
    show Goes p e below s _ _ _ s₁ (mkF m 9 #[.val (.int p1)] [(.int p1)])
    refine Goes.step (fun _ k => XS.bipush X0.here hx rfl (hb hby d7_9) k) ?_
    show Goes p e below s _ _ _ s₁ (mkF m 11 #[.val (.int p1)] [(.int (127 : Int32)), (.int p1)])
    refine Goes.ite (Q := PI h0) (fun hc11 => ?_) (fun hc11 => ?_)
    · refine Goes.step (fun _ k => XS.icmpNo X0.here hx rfl (hb hby d7_11) rfl (tlt hc11).2.1 k) ?_
      show Goes p e below s _ _ _ s₁ (mkF m 14 #[.val (.int p1)] [])
      refine Goes.step (fun _ k => XS.iconst X0.here hx rfl (hb hby d7_14) k) ?_
      show Goes p e below s _ _ _ s₁ (mkF m 15 #[.val (.int p1)] [(.int (0 : Int32))])
      exact Goes.outN X0 hx hlk (t := .boolean) Bd.returns (by simp) (hb hby d7_15) ⟨rfl, rfl, e0⟩ (by decide) (by decide)
    · refine Goes.step (fun _ k => XS.icmpYes X0.here hx rfl (pc0 := 11) (pc' := 16) rfl (hb hby d7_11) rfl (flt hc11).2.1 (by decide) (by decide) k) ?_
      show Goes p e below s _ _ _ s₁ (mkF m 16 #[.val (.int p1)] [])
      refine Goes.step (fun _ k => XS.iloadN X0.here hx rfl (hb hby d7_16) rfl k) ?_
      show Goes p e below s _ _ _ s₁ (mkF m 17 #[.val (.int p1)] [(.int p1)])
      refine Goes.step (fun _ k => XS.sipush X0.here hx rfl (hb hby d7_17) k) ?_
      show Goes p e below s _ _ _ s₁ (mkF m 20 #[.val (.int p1)] [(.int (160 : Int32)), (.int p1)])
      refine Goes.ite (Q := PI h0) (fun hc20 => ?_) (fun hc20 => ?_)
      · refine Goes.step (fun _ k => XS.icmpNo X0.here hx rfl (hb hby d7_20) rfl (tlt hc20).2.1 k) ?_
        show Goes p e below s _ _ _ s₁ (mkF m 23 #[.val (.int p1)] [])
        refine Goes.step (fun _ k => XS.iconst X0.here hx rfl (hb hby d7_23) k) ?_
        show Goes p e below s _ _ _ s₁ (mkF m 24 #[.val (.int p1)] [(.int (1 : Int32))])
        exact Goes.outN X0 hx hlk (t := .boolean) Bd.returns (by simp) (hb hby d7_24) ⟨rfl, rfl, e0⟩ (by decide) (by decide)
      · refine Goes.step (fun _ k => XS.icmpYes X0.here hx rfl (pc0 := 20) (pc' := 25) rfl (hb hby d7_20) rfl (flt hc20).2.1 (by decide) (by decide) k) ?_
        show Goes p e below s _ _ _ s₁ (mkF m 25 #[.val (.int p1)] [])
        refine Goes.step (fun _ k => XS.iconst X0.here hx rfl (hb hby d7_25) k) ?_
        show Goes p e below s _ _ _ s₁ (mkF m 26 #[.val (.int p1)] [(.int (0 : Int32))])
        exact Goes.outN X0 hx hlk (t := .boolean) Bd.returns (by simp) (hb hby d7_26) ⟨rfl, rfl, e0⟩ (by decide) (by decide)
theorem d16_0 : decode prog_1_method_5_code 0 = .ok (.iload_n 0, 1) := by decide +kernel
theorem d16_1 : decode prog_1_method_5_code 1 = .ok (.bipush 32, 2) := by decide +kernel
theorem d16_3 : decode prog_1_method_5_code 3 = .ok (.if_icmp .lt 16, 3) := by decide +kernel
theorem d16_6 : decode prog_1_method_5_code 6 = .ok (.iload_n 0, 1) := by decide +kernel
theorem d16_7 : decode prog_1_method_5_code 7 = .ok (.bipush 127, 2) := by decide +kernel
theorem d16_9 : decode prog_1_method_5_code 9 = .ok (.if_icmp .lt 14, 3) := by decide +kernel
theorem d16_12 : decode prog_1_method_5_code 12 = .ok (.iload_n 0, 1) := by decide +kernel
theorem d16_13 : decode prog_1_method_5_code 13 = .ok (.sipush 159, 3) := by decide +kernel
theorem d16_16 : decode prog_1_method_5_code 16 = .ok (.if_icmp .gt 7, 3) := by decide +kernel
theorem d16_19 : decode prog_1_method_5_code 19 = .ok (.iconst 1, 1) := by decide +kernel
theorem d16_20 : decode prog_1_method_5_code 20 = .ok (.goto 4, 3) := by decide +kernel
theorem d16_23 : decode prog_1_method_5_code 23 = .ok (.iconst 0, 1) := by decide +kernel
theorem d16_24 : decode prog_1_method_5_code 24 = .ok (.ireturn, 1) := by decide +kernel
theorem pn_16 : plainName "com/example/cartouche/cartouche/ControlCharacters" = true := by first | (simp [plainName, overriddenIn]; done) | decide +kernel
theorem ef_16 (m : MethodId) (p1 : Int32) : entryFrame m #[(.int p1)] 1 = mkF m 0 #[.val (.int p1)] [] := by first | (simp [entryFrame, mkF, argsToLocals, Value.category]; done) | rfl
def f16_23 (p1 : Int32) : Int32 := (0 : Int32)
def f16_19 (p1 : Int32) : Int32 := (1 : Int32)
def f16 (p1 : Int32) : Int32 := (if (p1 < (32 : Int32)) then (f16_19 p1) else (if (p1 < (127 : Int32)) then (f16_23 p1) else (if ((159 : Int32) < p1) then (f16_23 p1) else (f16_19 p1))))
set_option maxRecDepth 65536 in
set_option maxHeartbeats 40000000 in
theorem rm16 (l : Launch) (Z : State) (a0 : Array Value) (hw : ∀ d ∈ tables_1, d.before a0 Z = true) (ws : List Jvm.Cond) (p1 : Int32) (h0 : Heap)  :
    MetFree l (⟨"com/example/cartouche/cartouche/ControlCharacters", "isControl", "(C)Z"⟩ : MethodName) (head1 (Jvm.Cond.code (⟨"com/example/cartouche/cartouche/ControlCharacters", "isControl", "(C)Z"⟩ : MethodName) prog_1_method_5_code 1 (some .boolean) :: ws) ({ frames := 0, cells := 0, slots := 0, locals := 0 } : Room)) (fun a U => a = #[(.int p1)] ∧ Z.Warmed39 U.vm ∧ U.heap = h0) (fun _ _ _ _ _ => True) (fun _ U o U' => ∃ v L, o = .returned v ∧ PI h0 (f16 p1) v U'.heap L ∧ FrameEnd U o U' L ({ frames := 0, cells := 0, slots := 0, locals := 0 } : Room).cells ({ frames := 0, cells := 0, slots := 0, locals := 0 } : Room).slots) := by
  refine MetFree.of_bodySF (plainFor_of_name pn_16) hisR ?_
  intro p e s m args below meth c s₁ Bd hml0 hP hK
  obtain ⟨rfl, hZ, hh⟩ := hP
  have hx := Bd.exec
  have hby := Bd.bytes
  have hlk := Bd.notSynchronized
  have hml : c.maxLocals = 1 := hml0
  have hown : s.vm.findClass "com/example/cartouche/cartouche/ControlCharacters" = some m.cls := findClass_of_methodNamed Bd.named
  have X0 : Stand p l e ({ frames := 0, cells := 0, slots := 0, locals := 0 } : Room) s m #[(.int p1)] below meth c s₁ [] 0 0 := Stand.of_body Bd
  have e0 : s₁.heap = h0 := by rw [← hh, Bd.state]; rfl
  have B23 : ∀ (T : State), Stand p l e ({ frames := 0, cells := 0, slots := 0, locals := 0 } : Room) s m #[(.int p1)] below meth c T [] 0 0 → T.heap = h0 → ∀ (_ : True), Goes p e below s ({ frames := 0, cells := 0, slots := 0, locals := 0 } : Room).cells ({ frames := 0, cells := 0, slots := 0, locals := 0 } : Room).slots (PI h0 (f16_23 p1)) T (mkF m 23 #[.val (.int p1)] []) := by
    intro T X eT _
    refine Goes.step (fun _ k => XS.iconst X.here hx rfl (hb hby d16_23) k) ?_
    show Goes p e below s _ _ _ T (mkF m 24 #[.val (.int p1)] [(.int (0 : Int32))])
    exact Goes.outN X hx hlk (t := .boolean) Bd.returns (by simp) (hb hby d16_24) ⟨rfl, rfl, eT⟩ (by decide) (by decide)
  have B19 : ∀ (T : State), Stand p l e ({ frames := 0, cells := 0, slots := 0, locals := 0 } : Room) s m #[(.int p1)] below meth c T [] 0 0 → T.heap = h0 → ∀ (_ : True), Goes p e below s ({ frames := 0, cells := 0, slots := 0, locals := 0 } : Room).cells ({ frames := 0, cells := 0, slots := 0, locals := 0 } : Room).slots (PI h0 (f16_19 p1)) T (mkF m 19 #[.val (.int p1)] []) := by
    intro T X eT _
    refine Goes.step (fun _ k => XS.iconst X.here hx rfl (hb hby d16_19) k) ?_
    show Goes p e below s _ _ _ T (mkF m 20 #[.val (.int p1)] [(.int (1 : Int32))])
    refine Goes.step (fun _ k => XS.goto X.here hx rfl (pc0 := 20) (pc' := 24) rfl (hb hby d16_20) (by decide) (by decide) k) ?_
    show Goes p e below s _ _ _ T (mkF m 24 #[.val (.int p1)] [(.int (1 : Int32))])
    exact Goes.outN X hx hlk (t := .boolean) Bd.returns (by simp) (hb hby d16_24) ⟨rfl, rfl, eT⟩ (by decide) (by decide)
  show Goes p e below s ({ frames := 0, cells := 0, slots := 0, locals := 0 } : Room).cells ({ frames := 0, cells := 0, slots := 0, locals := 0 } : Room).slots (PI h0 (f16 p1)) s₁ (entryFrame m #[(.int p1)] 1)
  refine Goes.step (fun t k => castTop (ef_16 m p1) k) ?_
  refine Goes.step (fun _ k => XS.iloadN X0.here hx rfl (hb hby d16_0) rfl k) ?_
  show Goes p e below s _ _ _ s₁ (mkF m 1 #[.val (.int p1)] [(.int p1)])
  refine Goes.step (fun _ k => XS.bipush X0.here hx rfl (hb hby d16_1) k) ?_
  show Goes p e below s _ _ _ s₁ (mkF m 3 #[.val (.int p1)] [(.int (32 : Int32)), (.int p1)])
  refine Goes.ite (Q := PI h0) (fun hc3 => ?_) (fun hc3 => ?_)
  · refine Goes.step (fun _ k => XS.icmpYes X0.here hx rfl (pc0 := 3) (pc' := 19) rfl (hb hby d16_3) rfl (tlt hc3).1 (by decide) (by decide) k) ?_
    show Goes p e below s _ _ _ s₁ (mkF m 19 #[.val (.int p1)] [])
    exact B19 s₁ X0 e0 trivial
  · refine Goes.step (fun _ k => XS.icmpNo X0.here hx rfl (hb hby d16_3) rfl (flt hc3).1 k) ?_
    show Goes p e below s _ _ _ s₁ (mkF m 6 #[.val (.int p1)] [])
    refine Goes.step (fun _ k => XS.iloadN X0.here hx rfl (hb hby d16_6) rfl k) ?_
    show Goes p e below s _ _ _ s₁ (mkF m 7 #[.val (.int p1)] [(.int p1)])
    refine Goes.step (fun _ k => XS.bipush X0.here hx rfl (hb hby d16_7) k) ?_
    show Goes p e below s _ _ _ s₁ (mkF m 9 #[.val (.int p1)] [(.int (127 : Int32)), (.int p1)])
    refine Goes.ite (Q := PI h0) (fun hc9 => ?_) (fun hc9 => ?_)
    · refine Goes.step (fun _ k => XS.icmpYes X0.here hx rfl (pc0 := 9) (pc' := 23) rfl (hb hby d16_9) rfl (tlt hc9).1 (by decide) (by decide) k) ?_
      show Goes p e below s _ _ _ s₁ (mkF m 23 #[.val (.int p1)] [])
      exact B23 s₁ X0 e0 trivial
    · refine Goes.step (fun _ k => XS.icmpNo X0.here hx rfl (hb hby d16_9) rfl (flt hc9).1 k) ?_
      show Goes p e below s _ _ _ s₁ (mkF m 12 #[.val (.int p1)] [])
      refine Goes.step (fun _ k => XS.iloadN X0.here hx rfl (hb hby d16_12) rfl k) ?_
      show Goes p e below s _ _ _ s₁ (mkF m 13 #[.val (.int p1)] [(.int p1)])
      refine Goes.step (fun _ k => XS.sipush X0.here hx rfl (hb hby d16_13) k) ?_
      show Goes p e below s _ _ _ s₁ (mkF m 16 #[.val (.int p1)] [(.int (159 : Int32)), (.int p1)])
      refine Goes.ite (Q := PI h0) (fun hc16 => ?_) (fun hc16 => ?_)
      · refine Goes.step (fun _ k => XS.icmpYes X0.here hx rfl (pc0 := 16) (pc' := 23) rfl (hb hby d16_16) rfl (tlt hc16).2.2.1 (by decide) (by decide) k) ?_
        show Goes p e below s _ _ _ s₁ (mkF m 23 #[.val (.int p1)] [])
        exact B23 s₁ X0 e0 trivial
      · refine Goes.step (fun _ k => XS.icmpNo X0.here hx rfl (hb hby d16_16) rfl (flt hc16).2.2.1 k) ?_
        show Goes p e below s _ _ _ s₁ (mkF m 19 #[.val (.int p1)] [])
        exact B19 s₁ X0 e0 trivial
theorem own_shl0' (x : Int32) : x <<< ((0 : Int32) &&& 31) = x := own_shl0 x
/-- String.charAt's answer for the byte x -/
def own_c1 (x : Int32) : Int32 := nar .char ((x &&& (255 : Int32)).toUInt32.toUInt16.toUInt32.toInt32)
def own_ch (x : Int32) : Int32 := nar .char (own_c1 x)
/-- StringUTF16.getChar's, charAt's and String.charAt's answers -/
def own_g1 (x y : Int32) : Int32 := nar .char (((x &&& (255 : Int32)) <<< ((0 : Int32) &&& 31)) ||| ((y &&& (255 : Int32)) <<< ((8 : Int32) &&& 31))).toUInt32.toUInt16.toUInt32.toInt32
def own_g3 (x y : Int32) : Int32 := nar .char (nar .char (own_g1 x y))
/-- the byte that is stored -/
def own_bb (x : Int32) : Int32 := (x.toInt8.toInt32).toInt8.toInt32
def own_u (f : Nat → Int32) : Nat → Int32 := fun j => if j % 2 = 0 then own_bb ((f (j / 2)) >>> ((0 : Int32) &&& 31)) else own_bb ((f (j / 2)) >>> ((8 : Int32) &&& 31))
theorem own_i2c {y : Int32} (h0 : 0 ≤ y.toInt) (h1 : y.toInt < 65536) : y.toUInt32.toUInt16.toUInt32.toInt32 = y := by
  apply Int32.toInt_inj.mp
  obtain ⟨q1, q2, q3⟩ := c_i2c y
  omega
theorem own_nar (y : Int32) : nar .char y = y.toUInt32.toUInt16.toUInt32.toInt32 := rfl
theorem own_narc {y : Int32} (h0 : 0 ≤ y.toInt) (h1 : y.toInt < 65536) : nar .char y = y := (own_nar y).trans (own_i2c h0 h1)
theorem own_m255 (x : Int32) : (x &&& 255).toInt = x.toInt % 256 := c_mask x 255 8 (by decide) (by decide)
theorem own_bbm (x : Int32) : (own_bb x &&& (255 : Int32)).toInt = x.toInt % 256 := by
  rw [own_m255]
  have q1 := (c_i2b (x.toInt8.toInt32)).1
  have q2 := (c_i2b x).1
  simp only [own_bb]
  omega
theorem own_lat {x : Int32} (h0 : 0 ≤ x.toInt) (h1 : ¬ ((255 : Int32) < x)) : own_ch (own_bb x) = x := by
  rw [Int32.lt_iff_toInt_lt, show (255 : Int32).toInt = 255 from rfl] at h1
  have e : own_bb x &&& (255 : Int32) = x := Int32.toInt_inj.mp (by rw [own_bbm]; omega)
  simp only [own_ch, own_c1, e]
  rw [own_i2c h0 (by omega), own_narc h0 (by omega), own_narc h0 (by omega)]
theorem own_orN (a d : Nat) : Int32.ofNat a ||| Int32.ofNat d = Int32.ofNat (a ||| d) := by
  apply Int32.toBitVec_inj.mp
  simp [Int32.toBitVec_or, Int32.toBitVec_ofNat']
theorem own_or8 {x y : Int32} (hx : x.toInt < 256) (hx0 : 0 ≤ x.toInt) (hy : y.toInt < 256) (hy0 : 0 ≤ y.toInt) : (x ||| (y <<< ((8 : Int32) &&& 31))).toInt = x.toInt + y.toInt * 256 := by
  obtain ⟨a, ha, rfl⟩ : ∃ a : Nat, a < 256 ∧ x = Int32.ofNat a := ⟨x.toInt.toNat, by omega, Int32.toInt_inj.mp (by rw [Int32.toInt_ofNat_of_lt (by omega)]; omega)⟩
  obtain ⟨b, hb, rfl⟩ : ∃ b : Nat, b < 256 ∧ y = Int32.ofNat b := ⟨y.toInt.toNat, by omega, Int32.toInt_inj.mp (by rw [Int32.toInt_ofNat_of_lt (by omega)]; omega)⟩
  rw [Int32.toInt_ofNat_of_lt (by omega), Int32.toInt_ofNat_of_lt (by omega)]
  have e1 : (Int32.ofNat b) <<< ((8 : Int32) &&& 31) = Int32.ofNat (b * 256) := by
    apply Int32.toInt_inj.mp
    have q := c_ishl (Int32.ofNat b) 8 8 (by decide)
    have r := rng32 ((Int32.ofNat b) <<< ((8 : Int32) &&& 31))
    rw [Int32.toInt_ofNat_of_lt (by omega)] at q
    rw [Int32.toInt_ofNat_of_lt (by omega)]
    simp only [Nat.reducePow] at q
    omega
  rw [e1]
  have e3 : a ||| b * 256 = b * 256 + a := by
    rw [Nat.or_comm, Nat.mul_comm b 256]
    have := Nat.two_pow_add_eq_or_of_lt (i := 8) ha b
    simp only [Nat.reducePow] at this
    omega
  rw [own_orN, e3, Int32.toInt_ofNat_of_lt (by omega)]
  omega
theorem own_g {x : Int32} (h0 : 0 ≤ x.toInt) (h1 : x.toInt < 65536) : own_g1 (own_bb (x >>> ((0 : Int32) &&& 31))) (own_bb (x >>> ((8 : Int32) &&& 31))) = x := by
  have e0 := own_bbm (x >>> ((0 : Int32) &&& 31))
  have e8 := own_bbm (x >>> ((8 : Int32) &&& 31))
  rw [own_shr0] at e0
  have q := c_ishr x 8 8 (by decide)
  simp only [Nat.reducePow] at q
  have e : ((own_bb (x >>> ((0 : Int32) &&& 31)) &&& (255 : Int32)) <<< ((0 : Int32) &&& 31)) ||| ((own_bb (x >>> ((8 : Int32) &&& 31)) &&& (255 : Int32)) <<< ((8 : Int32) &&& 31)) = x := by
    apply Int32.toInt_inj.mp
    rw [own_shl0, own_shr0, own_or8 (by omega) (by omega) (by omega) (by omega)]
    omega
  simp only [own_g1, e]
  rw [own_i2c h0 h1, own_narc h0 h1]
theorem own_gg {x : Int32} (h0 : 0 ≤ x.toInt) (h1 : x.toInt < 65536) : own_g3 (own_bb (x >>> ((0 : Int32) &&& 31))) (own_bb (x >>> ((8 : Int32) &&& 31))) = x := by
  simp only [own_g3, own_g h0 h1, own_narc h0 h1]
theorem own_u0 (f : Nat → Int32) (i : Nat) : own_u f (2 * i) = own_bb ((f i) >>> ((0 : Int32) &&& 31)) := by
  simp only [own_u]
  rw [if_pos (by omega), show 2 * i / 2 = i by omega]
theorem own_u1 (f : Nat → Int32) (i : Nat) : own_u f (2 * i + 1) = own_bb ((f i) >>> ((8 : Int32) &&& 31)) := by
  simp only [own_u]
  rw [if_neg (by omega), show (2 * i + 1) / 2 = i by omega]
def own_rg (n : Nat) (f : Nat → Int32) : Prop := ∀ j, j < n → 0 ≤ (f j).toInt ∧ (f j).toInt < 65536
theorem own_g1u {n : Nat} {f : Nat → Int32} (r : own_rg n f) {i : Nat} (hi : i < n) : own_g1 (own_u f (2 * i)) (own_u f (2 * i + 1)) = f i := by
  rw [own_u0, own_u1]
  exact own_g (r i hi).1 (r i hi).2
theorem own_g3u {n : Nat} {f : Nat → Int32} (r : own_rg n f) {i : Nat} (hi : i < n) : own_g3 (own_u f (2 * i)) (own_u f (2 * i + 1)) = f i := by
  rw [own_u0, own_u1]
  exact own_gg (r i hi).1 (r i hi).2
/-- a String of n chars -/
def Str (Z : State) (h : Heap) (a : Addr) (n : Nat) (f : Nat → Int32) : Prop := Exa Z h a "java/lang/String" ∧ ∃ v, Fld Z h a "java/lang/String" "value" "[B" (.ref v) ∧
  ((Fld Z h a "java/lang/String" "coder" "B" (.int (0 : Int32)) ∧ Ari Z h v .byte n (fun j => own_bb (f j)) ∧ ∀ j, j < n → own_ch (own_bb (f j)) = f j) ∨
   (Fld Z h a "java/lang/String" "coder" "B" (.int (1 : Int32)) ∧ Ari Z h v .byte (2 * n) (own_u f) ∧ ∀ j, j < n → own_g3 (own_u f (2 * j)) (own_u f (2 * j + 1)) = f j))
theorem own_len2 (n : Nat) (hn : n < 2 ^ 30) : (Int32.ofNat (2 * n)) >>> ((1 : Int32) &&& 31) = Int32.ofNat n := by
  apply Int32.toInt_inj.mp
  rw [c_ishr _ 1 1 (by decide), Int32.toInt_ofNat_of_lt (by omega), Int32.toInt_ofNat_of_lt (by omega)]
  omega
theorem own_two (i : Nat) (hi : i < 2 ^ 29) : (Int32.ofNat i) <<< ((1 : Int32) &&& 31) = Int32.ofNat (2 * i) := by
  apply Int32.toInt_inj.mp
  have q := c_ishl (Int32.ofNat i) 1 1 (by decide)
  have r := rng32 ((Int32.ofNat i) <<< ((1 : Int32) &&& 31))
  rw [Int32.toInt_ofNat_of_lt (by omega)] at q
  rw [Int32.toInt_ofNat_of_lt (by omega)]
  simp only [Nat.reducePow] at q
  omega
theorem own_succ (k : Nat) : Int32.ofNat k + (1 : Int32) = Int32.ofNat (k + 1) := (Int32.ofNat_add k 1).symm
theorem own_jx0 {i : Nat} {p : Int32} (hi : p = Int32.ofNat i) (hin : i < 2 ^ 31) : ¬ (p < (0 : Int32)) := by
  rw [hi, Int32.lt_iff_toInt_lt, Int32.toInt_ofNat_of_lt hin]
  have : (0 : Int32).toInt = 0 := rfl
  omega
theorem own_jx1 {n i : Nat} {p : Int32} (hi : p = Int32.ofNat i) (hin : i < n) (hn : n < 2 ^ 31) : p < Int32.ofNat n := by
  rw [hi, Int32.lt_iff_toInt_lt, Int32.toInt_ofNat_of_lt (by omega), Int32.toInt_ofNat_of_lt hn]
  omega
theorem own_neq {r n : Nat} {q : Int32} (hr : r < n) (hn : n < 2 ^ 31) (hq : q = Int32.ofNat n) : ¬ (Int32.ofNat r = q) := fun e => by
  rw [hq] at e
  have := congrArg Int32.toInt e
  rw [Int32.toInt_ofNat_of_lt (by omega), Int32.toInt_ofNat_of_lt hn] at this
  omega
theorem own_mod5 (p : Int32) : ((p &&& (2147483647 : Int32)) % (5 : Int32)) = 0 ∨ ((p &&& (2147483647 : Int32)) % (5 : Int32)) = 1 ∨ ((p &&& (2147483647 : Int32)) % (5 : Int32)) = 2 ∨ ((p &&& (2147483647 : Int32)) % (5 : Int32)) = 3 ∨ ((p &&& (2147483647 : Int32)) % (5 : Int32)) = 4 := by
  have e := c_mask p 2147483647 31 (by decide) (by decide)
  have q := (c_irem (p &&& (2147483647 : Int32)) 5 5 rfl).1 (by omega)
  generalize (p &&& (2147483647 : Int32)) % (5 : Int32) = c at *
  have k : c.toInt = 0 ∨ c.toInt = 1 ∨ c.toInt = 2 ∨ c.toInt = 3 ∨ c.toInt = 4 := by omega
  rcases k with k | k | k | k | k
  · exact Or.inl (Int32.toInt_inj.mp k)
  · exact Or.inr (Or.inl (Int32.toInt_inj.mp k))
  · exact Or.inr (Or.inr (Or.inl (Int32.toInt_inj.mp k)))
  · exact Or.inr (Or.inr (Or.inr (Or.inl (Int32.toInt_inj.mp k))))
  · exact Or.inr (Or.inr (Or.inr (Or.inr (Int32.toInt_inj.mp k))))
theorem own_chr (x : Int32) : ∃ y : Int32, x.toUInt32.toUInt16.toUInt32.toInt32 = y ∧ 0 ≤ y.toInt ∧ y.toInt < 65536 := ⟨_, rfl, (c_i2c x).2⟩
def own_cs (x y z w : Int32) : Nat → Int32 := fun j => if j = 0 then x else if j = 1 then y else if j = 2 then z else w
theorem own_csr {x y z w : Int32} (hx : 0 ≤ x.toInt ∧ x.toInt < 65536) (hy : 0 ≤ y.toInt ∧ y.toInt < 65536) (hz : 0 ≤ z.toInt ∧ z.toInt < 65536) (hw : 0 ≤ w.toInt ∧ w.toInt < 65536) (n : Nat) : own_rg n (own_cs x y z w) := fun j _ => by
  simp only [own_cs]
  split
  · exact hx
  · split
    · exact hy
    · split
      · exact hz
      · exact hw
/-- the first place that P marks -/
def own_ix (P : Nat → Int32) : Nat → Nat → Int32
  | 0, _ => -1
  | k + 1, i => if P i = 0 then own_ix P k (i + 1) else Int32.ofNat i
theorem own_same (x : Int32) : f16 x = f7 x := by
  simp only [f16, f16_19, f16_23, f7, Int32.lt_iff_toInt_lt, show (32 : Int32).toInt = 32 from rfl, show (127 : Int32).toInt = 127 from rfl, show (159 : Int32).toInt = 159 from rfl, show (160 : Int32).toInt = 160 from rfl]
  by_cases h1 : x.toInt < 32
  · simp [h1]
  · by_cases h2 : x.toInt < 127
    · simp [h1, h2]
    · by_cases h3 : x.toInt < 160
      · have h4 : ¬ 159 < x.toInt := by omega
        simp [h1, h2, h3, h4]
      · have h4 : 159 < x.toInt := by omega
        simp [h1, h2, h3, h4]
theorem own_isref {t : Term} {args : Array Value} {first s : State} {o : Option Outcome} {idx : List Nat} (h : (Cond.isRef t).value args first o s idx = some true) : ∃ oF : Option Addr, t.eval args first o idx s = some (ov oF) := by
  obtain ⟨x, e, r⟩ := isR_v h
  rcases ref_cases r with rfl | ⟨a, rfl⟩
  · exact ⟨none, e⟩
  · exact ⟨some a, e⟩
theorem own_ix0 {Z : State} {h : Heap} {a : Addr} {ty : FieldType} {n i : Nat} {f : Nat → Int32} {p : Int32} (A : Ari Z h a ty n f) (hi : p = Int32.ofNat i) (hin : i < n) : ¬ (p < (0 : Int32)) := by
  obtain ⟨_, _, _, q, _⟩ := A
  exact own_jx0 hi (by omega)
theorem own_ix1 {Z : State} {h : Heap} {a : Addr} {ty : FieldType} {n i : Nat} {f : Nat → Int32} {p : Int32} (A : Ari Z h a ty n f) (hi : p = Int32.ofNat i) (hin : i < n) : p < Int32.ofNat n := by
  obtain ⟨_, _, _, q, _⟩ := A
  exact own_jx1 hi hin q
theorem own_big {p : Int32} {n : Nat} (hi : p = Int32.ofNat n) (hn : n ≤ 4) : p < (1073741823 : Int32) := by
  rw [hi, Int32.lt_iff_toInt_lt, Int32.toInt_ofNat_of_lt (by omega), show (1073741823 : Int32).toInt = 1073741823 from rfl]
  omega
theorem own_twoP {p : Int32} {i : Nat} (hi : p = Int32.ofNat i) (h : i < 2 ^ 29) : p <<< ((1 : Int32) &&& 31) = Int32.ofNat (2 * i) := by rw [hi]; exact own_two i h
theorem own_gt {n r : Nat} {f : Nat → Int32} (rg : own_rg n f) (hr : r < n) (h : (255 : Int32) < f r) : (255 : Int32) < own_g1 (own_u f (2 * r)) (own_u f (2 * r + 1)) := by rw [own_g1u rg hr]; exact h
def own_cf (p : Int32) (k : Nat) : Int32 := nar .byte (((p - Int32.ofNat k).toUInt32 >>> ((31 : Int32) &&& 31).toUInt32).toInt32.toInt8.toInt32)
theorem own_x0 (P : Nat → Int32) : own_ix P 0 0 = (-1 : Int32) := rfl
theorem own_x1 (P : Nat → Int32) : own_ix P 1 0 = if P 0 = 0 then (-1 : Int32) else (0 : Int32) := rfl
theorem own_x2 (P : Nat → Int32) : own_ix P 2 0 = if P 0 = 0 then (if P 1 = 0 then (-1 : Int32) else (1 : Int32)) else (0 : Int32) := rfl
theorem own_x3 (P : Nat → Int32) : own_ix P 3 0 = if P 0 = 0 then (if P 1 = 0 then (if P 2 = 0 then (-1 : Int32) else (2 : Int32)) else (1 : Int32)) else (0 : Int32) := rfl
theorem own_x4 (P : Nat → Int32) : own_ix P 4 0 = if P 0 = 0 then (if P 1 = 0 then (if P 2 = 0 then (if P 3 = 0 then (-1 : Int32) else (3 : Int32)) else (2 : Int32)) else (1 : Int32)) else (0 : Int32) := rfl
theorem own_fldne {Z : State} {h : Heap} {a b : Addr} {C n d : String} {v w : Value} (F : Fld Z h a C n d v) (G : Fld Z h b C n d w) (q : v ≠ w) : a ≠ b := fun e => by
  subst e
  obtain ⟨c1, f1, k1, i1, g1, r1, r2, -, -, -, -, r3⟩ := F
  obtain ⟨c2, f2, k2, i2, g2, t1, t2, -, -, -, -, t3⟩ := G
  cases r1.symm.trans t1
  cases r2.symm.trans t2
  exact q (Option.some.inj (r3.symm.trans t3))
theorem Ari.neExa {Z : State} {a0 : Array Value} {h : Heap} {a x : Addr} {t1 : FieldType} {n1 ki : Nat} {f1 : Nat → Int32} {C : String} (A : Ari Z h a t1 n1 f1) (E : Exa Z h x C) (w : (Cond.instantiable C ki).before a0 Z = true) : a ≠ x := by
  obtain ⟨k, V⟩ := A.arv
  exact Ne.symm (E.neArv V w)
theorem d15_0 : decode jdk_41_method_11_code 0 = .ok (.iload_n 0, 1) := by decide +kernel
theorem d15_1 : decode jdk_41_method_11_code 1 = .ok (.ifCond .lt 8, 3) := by decide +kernel
theorem d15_4 : decode jdk_41_method_11_code 4 = .ok (.iload_n 0, 1) := by decide +kernel
theorem d15_5 : decode jdk_41_method_11_code 5 = .ok (.iload_n 1, 1) := by decide +kernel
theorem d15_6 : decode jdk_41_method_11_code 6 = .ok (.if_icmp .lt 10, 3) := by decide +kernel
theorem d15_16 : decode jdk_41_method_11_code 16 = .ok (.iload_n 0, 1) := by decide +kernel
theorem d15_17 : decode jdk_41_method_11_code 17 = .ok (.ireturn, 1) := by decide +kernel
theorem pn_15 : plainName "jdk/internal/util/Preconditions" = true := by first | (simp [plainName, overriddenIn]; done) | decide +kernel
theorem ef_15 (m : MethodId) (p1 : Int32) (p2 : Int32) (o3 : Option Addr) : entryFrame m #[(.int p1), (.int p2), (ov o3)] 3 = mkF m 0 #[.val (.int p1), .val (.int p2), .val (ov o3)] [] := by cases o3 <;> rfl
def Q15 (Z : State) (p1 : Int32) (p2 : Int32) (o3 : Option Addr)  (h0 : Heap) (n0 : Nat) (v : Option Value) (h : Heap) (L : List Loc) : Prop := PQ h0 (some (.int p1)) v h L
set_option maxRecDepth 65536 in
set_option maxHeartbeats 40000000 in
theorem rm15 (l : Launch) (Z : State) (a0 : Array Value) (hw : ∀ d ∈ tables_1, d.before a0 Z = true) (ws : List Jvm.Cond) (p1 : Int32) (p2 : Int32) (o3 : Option Addr)  (h0 : Heap) (n0 : Nat) (Z0 : n0 ≤ h0.size) (h1 : ¬ (p1 < (0 : Int32))) (h2 : p1 < p2) :
    MetFree l (⟨"jdk/internal/util/Preconditions", "checkIndex", "(IILjava/util/function/BiFunction;)I"⟩ : MethodName) (head1 (Jvm.Cond.code (⟨"jdk/internal/util/Preconditions", "checkIndex", "(IILjava/util/function/BiFunction;)I"⟩ : MethodName) jdk_41_method_11_code 3 (some .int) :: ws) ({ frames := 0, cells := 0, slots := 0, locals := 0 } : Room)) (fun a U => a = #[(.int p1), (.int p2), (ov o3)] ∧ Z.Warmed39 U.vm ∧ U.heap = h0) (fun _ _ _ _ _ => True) (fun _ U o U' => ∃ v L, o = .returned v ∧ Q15 Z p1 p2 o3 h0 n0 v U'.heap L ∧ FrameEnd U o U' L ({ frames := 0, cells := 0, slots := 0, locals := 0 } : Room).cells ({ frames := 0, cells := 0, slots := 0, locals := 0 } : Room).slots) := by
  refine MetFree.of_bodySF (plainFor_of_name pn_15) hisR ?_
  intro p e s m args below meth c s₁ Bd hml0 hP hK
  obtain ⟨rfl, hZ, hh⟩ := hP
  have hx := Bd.exec
  have hby := Bd.bytes
  have hlk := Bd.notSynchronized
  have hml : c.maxLocals = 3 := hml0
  have hown : s.vm.findClass "jdk/internal/util/Preconditions" = some m.cls := findClass_of_methodNamed Bd.named
  have hnm := (name_of_methodNamed Bd.named Bd.method).1
  have X0 : Stand p l e ({ frames := 0, cells := 0, slots := 0, locals := 0 } : Room) s m #[(.int p1), (.int p2), (ov o3)] below meth c s₁ [] 0 0 := Stand.of_body Bd
  have e0 : s₁.heap = h0 := by rw [← hh, Bd.state]; rfl
  have N0 := Fr.nil n0
  have K0 : Keep h0 h0 [] := Keep.refl h0 _
  show Goes p e below s ({ frames := 0, cells := 0, slots := 0, locals := 0 } : Room).cells ({ frames := 0, cells := 0, slots := 0, locals := 0 } : Room).slots (Q15 Z p1 p2 o3 h0 n0) s₁ (entryFrame m #[(.int p1), (.int p2), (ov o3)] 3)
  refine Goes.step (fun t k => castTop (ef_15 m p1 p2 o3) k) ?_
  refine Goes.step (fun _ k => XS.iloadN X0.here hx rfl (hb hby d15_0) rfl k) ?_
  refine Goes.step (fun _ k => XS.ifNo X0.here hx rfl (hb hby d15_1) rfl ((if0 _ _).trans (flt h1).1) k) ?_
  show Goes p e below s _ _ _ s₁ (mkF m 4 #[.val (.int p1), .val (.int p2), .val (ov o3)] [])
  refine Goes.step (fun _ k => XS.iloadN X0.here hx rfl (hb hby d15_4) rfl k) ?_
  refine Goes.step (fun _ k => XS.iloadN X0.here hx rfl (hb hby d15_5) rfl k) ?_
  show Goes p e below s _ _ _ s₁ (mkF m 6 #[.val (.int p1), .val (.int p2), .val (ov o3)] [(.int p2), (.int p1)])
  refine Goes.step (fun _ k => XS.icmpYes X0.here hx rfl (pc0 := 6) (pc' := 16) rfl (hb hby d15_6) rfl (tlt h2).1 (by decide) (by decide) k) ?_
  show Goes p e below s _ _ _ s₁ (mkF m 16 #[.val (.int p1), .val (.int p2), .val (ov o3)] [])
  refine Goes.step (fun _ k => XS.iloadN X0.here hx rfl (hb hby d15_16) rfl k) ?_
  show Goes p e below s _ _ _ s₁ (mkF m 17 #[.val (.int p1), .val (.int p2), .val (ov o3)] [(.int p1)])
  exact Goes.outI X0 hx hlk Bd.returns (hb hby d15_17) (by rw [e0]; exact ⟨rfl, rfl, rfl⟩) (by decide) (by decide)
theorem d14_0 : decode jdk_42_method_155_code 0 = .ok (.iload_n 0, 1) := by decide +kernel
theorem d14_1 : decode jdk_42_method_155_code 1 = .ok (.iload_n 1, 1) := by decide +kernel
theorem d14_2 : decode jdk_42_method_155_code 2 = .ok (.getstatic 1053, 3) := by decide +kernel
theorem d14_5 : decode jdk_42_method_155_code 5 = .ok (.invokestatic 1059, 3) := by decide +kernel
theorem d14_8 : decode jdk_42_method_155_code 8 = .ok (.pop, 1) := by decide +kernel
theorem d14_9 : decode jdk_42_method_155_code 9 = .ok (.return_, 1) := by decide +kernel
theorem pn_14 : plainName "java/lang/String" = true := by first | (simp [plainName, overriddenIn]; done) | decide +kernel
theorem pd_14_0 : parseMethodDescriptor "(IILjava/util/function/BiFunction;)I" = some ⟨[.int, .int, (.object "java/util/function/BiFunction")], some .int⟩ := by decide +kernel
theorem ef_14 (m : MethodId) (p1 : Int32) (p2 : Int32) : entryFrame m #[(.int p1), (.int p2)] 2 = mkF m 0 #[.val (.int p1), .val (.int p2)] [] := by first | (simp [entryFrame, mkF, argsToLocals, Value.category]; done) | rfl
def Q14 (Z : State) (p1 : Int32) (p2 : Int32) (oF : Option Addr) (h0 : Heap) (n0 : Nat) (v : Option Value) (h : Heap) (L : List Loc) : Prop := PQ h0 none v h L
set_option maxRecDepth 65536 in
set_option maxHeartbeats 40000000 in
theorem rm14 (l : Launch) (Z : State) (a0 : Array Value) (hw : ∀ d ∈ tables_1, d.before a0 Z = true) (ws : List Jvm.Cond) (p1 : Int32) (p2 : Int32) (oF : Option Addr) (h0 : Heap) (n0 : Nat) (Z0 : n0 ≤ h0.size) (OL : Old Z n0 h0) (O4 : Sta Z Z.heap "jdk/internal/util/Preconditions" "SIOOBE_FORMATTER" "Ljava/util/function/BiFunction;" (ov oF)) (h1 : ¬ (p1 < (0 : Int32))) (h2 : p1 < p2) :
    MetFree l (⟨"java/lang/String", "checkIndex", "(II)V"⟩ : MethodName) (head1 (Jvm.Cond.code (⟨"java/lang/String", "checkIndex", "(II)V"⟩ : MethodName) jdk_42_method_155_code 2 none :: ws) ({ frames := 1, cells := 0, slots := 0, locals := 14 } : Room)) (fun a U => a = #[(.int p1), (.int p2)] ∧ Z.Warmed39 U.vm ∧ U.heap = h0) (fun _ _ _ _ _ => True) (fun _ U o U' => ∃ v L, o = .returned v ∧ Q14 Z p1 p2 oF h0 n0 v U'.heap L ∧ FrameEnd U o U' L ({ frames := 1, cells := 0, slots := 0, locals := 14 } : Room).cells ({ frames := 1, cells := 0, slots := 0, locals := 14 } : Room).slots) := by
  refine MetFree.of_bodySF (plainFor_of_name pn_14) hisR ?_
  intro p e s m args below meth c s₁ Bd hml0 hP hK
  obtain ⟨rfl, hZ, hh⟩ := hP
  have hx := Bd.exec
  have hby := Bd.bytes
  have hlk := Bd.notSynchronized
  have hml : c.maxLocals = 2 := hml0
  have hown : s.vm.findClass "java/lang/String" = some m.cls := findClass_of_methodNamed Bd.named
  have hnm := (name_of_methodNamed Bd.named Bd.method).1
  have X0 : Stand p l e ({ frames := 1, cells := 0, slots := 0, locals := 14 } : Room) s m #[(.int p1), (.int p2)] below meth c s₁ [] 0 0 := Stand.of_body Bd
  have e0 : s₁.heap = h0 := by rw [← hh, Bd.state]; rfl
  have N0 := Fr.nil n0
  have K0 : Keep h0 h0 [] := Keep.refl h0 _
  show Goes p e below s ({ frames := 1, cells := 0, slots := 0, locals := 14 } : Room).cells ({ frames := 1, cells := 0, slots := 0, locals := 14 } : Room).slots (Q14 Z p1 p2 oF h0 n0) s₁ (entryFrame m #[(.int p1), (.int p2)] 2)
  refine Goes.step (fun t k => castTop (ef_14 m p1 p2) k) ?_
  refine Goes.step (fun _ k => XS.iloadN X0.here hx rfl (hb hby d14_0) rfl k) ?_
  refine Goes.step (fun _ k => XS.iloadN X0.here hx rfl (hb hby d14_1) rfl k) ?_
  show Goes p e below s _ _ _ s₁ (mkF m 2 #[.val (.int p1), .val (.int p2)] [(.int p2), (.int p1)])
  obtain ⟨T1, X1, e1, st1⟩ := getS2 X0 hx hZ hown (host := "") (Or.inl (hw _ (List.mem_of_getElem? (i := 67) rfl))) Via.refl e0 (O4.ext (OL.keep K0 all0).2) (g := (mkF m 2 #[.val (.int p1), .val (.int p2)] [(.int p2), (.int p1)])) rfl (hb hby d14_2)
  refine Goes.step st1 ?_
  show Goes p e below s _ _ _ T1 (mkF m 5 #[.val (.int p1), .val (.int p2)] [(ov oF), (.int p2), (.int p1)])
  obtain ⟨T2, X2, e2, st2⟩ := own_pure (r := some (.int p1)) (fun _ _ _ q => q) (callX X1 hx hZ (y := (⟨"jdk/internal/util/Preconditions", "checkIndex", "(IILjava/util/function/BiFunction;)I"⟩ : MethodName)) hown (hw _ (List.mem_of_getElem? (i := 69) rfl)) (hw _ (List.mem_of_getElem? (i := 70) rfl)) (hw _ (List.mem_of_getElem? (i := 68) rfl)) (hw _ (List.mem_of_getElem? (i := 71) rfl)) (by decide) (W := 0) (argsL := [(.int p1), (.int p2), (ov oF)]) (rest := []) (rm15 l Z a0 hw [] p1 p2 oF h0 n0 Z0 h1 h2) (by decide) (by decide) (by decide) (by decide) e1 (g := (mkF m 5 #[.val (.int p1), .val (.int p2)] [(ov oF), (.int p2), (.int p1)])) rfl (by rw [hml]; rfl) (lenOf pd_14_0 rfl) rfl (by show 2 * 0 + _ ≤ _; exact Nat.le_of_eq rfl) (hb hby d14_5))
  refine Goes.step st2 ?_
  show Goes p e below s _ _ _ T2 (mkF m 8 #[.val (.int p1), .val (.int p2)] [(.int p1)])
  refine Goes.step (fun _ k => XS.pop X2.here hx rfl (hb hby d14_8) rfl rfl k) ?_
  show Goes p e below s _ _ _ T2 (mkF m 9 #[.val (.int p1), .val (.int p2)] [])
  exact Goes.outV X2 hx hlk Bd.returns (hb hby d14_9) (by rw [e2]; exact ⟨rfl, rfl, rfl⟩) (by decide) (by decide)
theorem d13_0 : decode jdk_43_method_2_code 0 = .ok (.iload_n 1, 1) := by decide +kernel
theorem d13_1 : decode jdk_43_method_2_code 1 = .ok (.aload_n 0, 1) := by decide +kernel
theorem d13_2 : decode jdk_43_method_2_code 2 = .ok (.arraylength, 1) := by decide +kernel
theorem d13_3 : decode jdk_43_method_2_code 3 = .ok (.invokestatic 9, 3) := by decide +kernel
theorem d13_6 : decode jdk_43_method_2_code 6 = .ok (.aload_n 0, 1) := by decide +kernel
theorem d13_7 : decode jdk_43_method_2_code 7 = .ok (.iload_n 1, 1) := by decide +kernel
theorem d13_8 : decode jdk_43_method_2_code 8 = .ok (.baload, 1) := by decide +kernel
theorem d13_9 : decode jdk_43_method_2_code 9 = .ok (.sipush 255, 3) := by decide +kernel
theorem d13_12 : decode jdk_43_method_2_code 12 = .ok (.iand, 1) := by decide +kernel
theorem d13_13 : decode jdk_43_method_2_code 13 = .ok (.i2c, 1) := by decide +kernel
theorem d13_14 : decode jdk_43_method_2_code 14 = .ok (.ireturn, 1) := by decide +kernel
theorem pn_13 : plainName "java/lang/StringLatin1" = true := by first | (simp [plainName, overriddenIn]; done) | decide +kernel
theorem pd_13_0 : parseMethodDescriptor "(II)V" = some ⟨[.int, .int], none⟩ := by decide +kernel
theorem ef_13 (m : MethodId) (a1 : Addr) (p2 : Int32) : entryFrame m #[(.ref a1), (.int p2)] 2 = mkF m 0 #[.val (.ref a1), .val (.int p2)] [] := by first | (simp [entryFrame, mkF, argsToLocals, Value.category]; done) | rfl
def Q13 (Z : State) (a1 : Addr) (p2 : Int32) (oF : Option Addr) (i : Nat) (n : Nat) (f : Nat → Int32) (h0 : Heap) (n0 : Nat) (v : Option Value) (h : Heap) (L : List Loc) : Prop := PQ h0 (some (.int (own_c1 (f i)))) v h L
set_option maxRecDepth 65536 in
set_option maxHeartbeats 40000000 in
theorem rm13 (l : Launch) (Z : State) (a0 : Array Value) (hw : ∀ d ∈ tables_1, d.before a0 Z = true) (ws : List Jvm.Cond) (a1 : Addr) (p2 : Int32) (oF : Option Addr) (i : Nat) (n : Nat) (f : Nat → Int32) (h0 : Heap) (n0 : Nat) (Z0 : n0 ≤ h0.size) (OL : Old Z n0 h0) (O4 : Sta Z Z.heap "jdk/internal/util/Preconditions" "SIOOBE_FORMATTER" "Ljava/util/function/BiFunction;" (ov oF)) (A_a1_0 : Ari Z h0 a1 .byte n f) (hi : p2 = Int32.ofNat i) (hin : i < n) :
    MetFree l (⟨"java/lang/StringLatin1", "charAt", "([BI)C"⟩ : MethodName) (head1 (Jvm.Cond.code (⟨"java/lang/StringLatin1", "charAt", "([BI)C"⟩ : MethodName) jdk_43_method_2_code 2 (some .char) :: ws) ({ frames := 2, cells := 0, slots := 0, locals := 27 } : Room)) (fun a U => a = #[(.ref a1), (.int p2)] ∧ Z.Warmed39 U.vm ∧ U.heap = h0) (fun _ _ _ _ _ => True) (fun _ U o U' => ∃ v L, o = .returned v ∧ Q13 Z a1 p2 oF i n f h0 n0 v U'.heap L ∧ FrameEnd U o U' L ({ frames := 2, cells := 0, slots := 0, locals := 27 } : Room).cells ({ frames := 2, cells := 0, slots := 0, locals := 27 } : Room).slots) := by
  refine MetFree.of_bodySF (plainFor_of_name pn_13) hisR ?_
  intro p e s m args below meth c s₁ Bd hml0 hP hK
  obtain ⟨rfl, hZ, hh⟩ := hP
  have hx := Bd.exec
  have hby := Bd.bytes
  have hlk := Bd.notSynchronized
  have hml : c.maxLocals = 2 := hml0
  have hown : s.vm.findClass "java/lang/StringLatin1" = some m.cls := findClass_of_methodNamed Bd.named
  have hnm := (name_of_methodNamed Bd.named Bd.method).1
  have X0 : Stand p l e ({ frames := 2, cells := 0, slots := 0, locals := 27 } : Room) s m #[(.ref a1), (.int p2)] below meth c s₁ [] 0 0 := Stand.of_body Bd
  have e0 : s₁.heap = h0 := by rw [← hh, Bd.state]; rfl
  have N0 := Fr.nil n0
  have K0 : Keep h0 h0 [] := Keep.refl h0 _
  show Goes p e below s ({ frames := 2, cells := 0, slots := 0, locals := 27 } : Room).cells ({ frames := 2, cells := 0, slots := 0, locals := 27 } : Room).slots (Q13 Z a1 p2 oF i n f h0 n0) s₁ (entryFrame m #[(.ref a1), (.int p2)] 2)
  refine Goes.step (fun t k => castTop (ef_13 m a1 p2) k) ?_
  refine Goes.step (fun _ k => XS.iloadN X0.here hx rfl (hb hby d13_0) rfl k) ?_
  refine Goes.step (fun _ k => XS.aloadN X0.here hx rfl (hb hby d13_1) rfl rfl k) ?_
  show Goes p e below s _ _ _ s₁ (mkF m 2 #[.val (.ref a1), .val (.int p2)] [(.ref a1), (.int p2)])
  refine Goes.step (fun _ k => rdL X0 hx hZ e0 A_a1_0 (g := (mkF m 2 #[.val (.ref a1), .val (.int p2)] [(.ref a1), (.int p2)])) rfl rfl (hb hby d13_2) _ k) ?_
  show Goes p e below s _ _ _ s₁ (mkF m 3 #[.val (.ref a1), .val (.int p2)] [(.int (Int32.ofNat n)), (.int p2)])
  obtain ⟨T1, X1, e1, st1⟩ := own_pure (r := none) (fun _ _ _ q => q) (callX X0 hx hZ (y := (⟨"java/lang/String", "checkIndex", "(II)V"⟩ : MethodName)) hown (hw _ (List.mem_of_getElem? (i := 64) rfl)) (hw _ (List.mem_of_getElem? (i := 65) rfl)) (hw _ (List.mem_of_getElem? (i := 4) rfl)) (hw _ (List.mem_of_getElem? (i := 66) rfl)) (by decide) (W := 0) (argsL := [(.int p2), (.int (Int32.ofNat n))]) (rest := []) (rm14 l Z a0 hw [] p2 (Int32.ofNat n) oF h0 n0 Z0 (OL.keep K0 all0) O4 (own_ix0 A_a1_0 hi hin) (own_ix1 A_a1_0 hi hin)) (by decide) (by decide) (by decide) (by decide) e0 (g := (mkF m 3 #[.val (.ref a1), .val (.int p2)] [(.int (Int32.ofNat n)), (.int p2)])) rfl (by rw [hml]; rfl) (lenOf pd_13_0 rfl) rfl (by show 2 * 0 + _ ≤ _; exact Nat.le_of_eq rfl) (hb hby d13_3))
  refine Goes.step st1 ?_
  show Goes p e below s _ _ _ T1 (mkF m 6 #[.val (.ref a1), .val (.int p2)] [])
  refine Goes.step (fun _ k => XS.aloadN X1.here hx rfl (hb hby d13_6) rfl rfl k) ?_
  refine Goes.step (fun _ k => XS.iloadN X1.here hx rfl (hb hby d13_7) rfl k) ?_
  show Goes p e below s _ _ _ T1 (mkF m 8 #[.val (.ref a1), .val (.int p2)] [(.int p2), (.ref a1)])
  refine Goes.step (fun _ k => rdB X1 hx hZ e1 A_a1_0 (i) hi hin (g := (mkF m 8 #[.val (.ref a1), .val (.int p2)] [(.int p2), (.ref a1)])) rfl rfl (hb hby d13_8) _ k) ?_
  show Goes p e below s _ _ _ T1 (mkF m 9 #[.val (.ref a1), .val (.int p2)] [(.int (f (i)))])
  refine Goes.step (fun _ k => XS.sipush X1.here hx rfl (hb hby d13_9) k) ?_
  refine Goes.step (fun _ k => XS.iand X1.here hx rfl (hb hby d13_12) rfl k) ?_
  show Goes p e below s _ _ _ T1 (mkF m 13 #[.val (.ref a1), .val (.int p2)] [(.int ((f (i)) &&& (255 : Int32)))])
  refine Goes.step (fun _ k => XS.i2c X1.here hx rfl (hb hby d13_13) rfl k) ?_
  show Goes p e below s _ _ _ T1 (mkF m 14 #[.val (.ref a1), .val (.int p2)] [(.int (((f (i)) &&& (255 : Int32)).toUInt32.toUInt16.toUInt32.toInt32))])
  exact Goes.outN X1 hx hlk (t := .char) Bd.returns (by simp) (hb hby d13_14) (by rw [e1]; exact ⟨rfl, rfl, rfl⟩) (by decide) (by decide)
theorem d24_0 : decode jdk_52_method_6_code 0 = .ok (.aload_n 0, 1) := by decide +kernel
theorem d24_1 : decode jdk_52_method_6_code 1 = .ok (.arraylength, 1) := by decide +kernel
theorem d24_2 : decode jdk_52_method_6_code 2 = .ok (.iconst 1, 1) := by decide +kernel
theorem d24_3 : decode jdk_52_method_6_code 3 = .ok (.ishr, 1) := by decide +kernel
theorem d24_4 : decode jdk_52_method_6_code 4 = .ok (.ireturn, 1) := by decide +kernel
theorem pn_24 : plainName "java/lang/StringUTF16" = true := by first | (simp [plainName, overriddenIn]; done) | decide +kernel
theorem ef_24 (m : MethodId) (a1 : Addr) : entryFrame m #[(.ref a1)] 1 = mkF m 0 #[.val (.ref a1)] [] := by first | (simp [entryFrame, mkF, argsToLocals, Value.category]; done) | rfl
def Q24 (Z : State) (a1 : Addr) (n : Nat) (f : Nat → Int32) (h0 : Heap) (n0 : Nat) (v : Option Value) (h : Heap) (L : List Loc) : Prop := PQ h0 (some (.int (Int32.ofNat n))) v h L
set_option maxRecDepth 65536 in
set_option maxHeartbeats 40000000 in
theorem rm24 (l : Launch) (Z : State) (a0 : Array Value) (hw : ∀ d ∈ tables_1, d.before a0 Z = true) (ws : List Jvm.Cond) (a1 : Addr) (n : Nat) (f : Nat → Int32) (h0 : Heap) (n0 : Nat) (Z0 : n0 ≤ h0.size) (A_a1_0 : Ari Z h0 a1 .byte (2 * n) f) (hn4 : n ≤ 4) :
    MetFree l (⟨"java/lang/StringUTF16", "length", "([B)I"⟩ : MethodName) (head1 (Jvm.Cond.code (⟨"java/lang/StringUTF16", "length", "([B)I"⟩ : MethodName) jdk_52_method_6_code 1 (some .int) :: ws) ({ frames := 0, cells := 0, slots := 0, locals := 0 } : Room)) (fun a U => a = #[(.ref a1)] ∧ Z.Warmed39 U.vm ∧ U.heap = h0) (fun _ _ _ _ _ => True) (fun _ U o U' => ∃ v L, o = .returned v ∧ Q24 Z a1 n f h0 n0 v U'.heap L ∧ FrameEnd U o U' L ({ frames := 0, cells := 0, slots := 0, locals := 0 } : Room).cells ({ frames := 0, cells := 0, slots := 0, locals := 0 } : Room).slots) := by
  refine MetFree.of_bodySF (plainFor_of_name pn_24) hisR ?_
  intro p e s m args below meth c s₁ Bd hml0 hP hK
  obtain ⟨rfl, hZ, hh⟩ := hP
  have hx := Bd.exec
  have hby := Bd.bytes
  have hlk := Bd.notSynchronized
  have hml : c.maxLocals = 1 := hml0
  have hown : s.vm.findClass "java/lang/StringUTF16" = some m.cls := findClass_of_methodNamed Bd.named
  have hnm := (name_of_methodNamed Bd.named Bd.method).1
  have X0 : Stand p l e ({ frames := 0, cells := 0, slots := 0, locals := 0 } : Room) s m #[(.ref a1)] below meth c s₁ [] 0 0 := Stand.of_body Bd
  have e0 : s₁.heap = h0 := by rw [← hh, Bd.state]; rfl
  have N0 := Fr.nil n0
  have K0 : Keep h0 h0 [] := Keep.refl h0 _
  show Goes p e below s ({ frames := 0, cells := 0, slots := 0, locals := 0 } : Room).cells ({ frames := 0, cells := 0, slots := 0, locals := 0 } : Room).slots (Q24 Z a1 n f h0 n0) s₁ (entryFrame m #[(.ref a1)] 1)
  refine Goes.step (fun t k => castTop (ef_24 m a1) k) ?_
  refine Goes.step (fun _ k => XS.aloadN X0.here hx rfl (hb hby d24_0) rfl rfl k) ?_
  refine Goes.step (fun _ k => rdL X0 hx hZ e0 A_a1_0 (g := (mkF m 1 #[.val (.ref a1)] [(.ref a1)])) rfl rfl (hb hby d24_1) _ k) ?_
  show Goes p e below s _ _ _ s₁ (mkF m 2 #[.val (.ref a1)] [(.int (Int32.ofNat (2 * n)))])
  refine Goes.step (fun _ k => XS.iconst X0.here hx rfl (hb hby d24_2) k) ?_
  refine Goes.step (fun _ k => XS.ishr X0.here hx rfl (hb hby d24_3) rfl k) ?_
  show Goes p e below s _ _ _ s₁ (mkF m 4 #[.val (.ref a1)] [(.int ((Int32.ofNat (2 * n)) >>> ((1 : Int32) &&& 31)))])
  exact Goes.outI X0 hx hlk Bd.returns (hb hby d24_4) (by rw [e0]; exact ⟨by rw [own_len2 n (by omega)], rfl, rfl⟩) (by decide) (by decide)
theorem d23_0 : decode jdk_52_method_91_code 0 = .ok (.iload_n 0, 1) := by decide +kernel
theorem d23_1 : decode jdk_52_method_91_code 1 = .ok (.aload_n 1, 1) := by decide +kernel
theorem d23_2 : decode jdk_52_method_91_code 2 = .ok (.invokestatic 48, 3) := by decide +kernel
theorem d23_5 : decode jdk_52_method_91_code 5 = .ok (.invokestatic 414, 3) := by decide +kernel
theorem d23_8 : decode jdk_52_method_91_code 8 = .ok (.return_, 1) := by decide +kernel
theorem pn_23 : plainName "java/lang/StringUTF16" = true := by first | (simp [plainName, overriddenIn]; done) | decide +kernel
theorem pd_23_0 : parseMethodDescriptor "([B)I" = some ⟨[(.array .byte)], some .int⟩ := by decide +kernel
theorem pd_23_1 : parseMethodDescriptor "(II)V" = some ⟨[.int, .int], none⟩ := by decide +kernel
theorem ef_23 (m : MethodId) (p1 : Int32) (a2 : Addr) : entryFrame m #[(.int p1), (.ref a2)] 2 = mkF m 0 #[.val (.int p1), .val (.ref a2)] [] := by first | (simp [entryFrame, mkF, argsToLocals, Value.category]; done) | rfl
def Q23 (Z : State) (p1 : Int32) (a2 : Addr) (oF : Option Addr) (i : Nat) (n : Nat) (f : Nat → Int32) (h0 : Heap) (n0 : Nat) (v : Option Value) (h : Heap) (L : List Loc) : Prop := PQ h0 none v h L
set_option maxRecDepth 65536 in
set_option maxHeartbeats 40000000 in
theorem rm23 (l : Launch) (Z : State) (a0 : Array Value) (hw : ∀ d ∈ tables_1, d.before a0 Z = true) (ws : List Jvm.Cond) (p1 : Int32) (a2 : Addr) (oF : Option Addr) (i : Nat) (n : Nat) (f : Nat → Int32) (h0 : Heap) (n0 : Nat) (Z0 : n0 ≤ h0.size) (OL : Old Z n0 h0) (O4 : Sta Z Z.heap "jdk/internal/util/Preconditions" "SIOOBE_FORMATTER" "Ljava/util/function/BiFunction;" (ov oF)) (A_a2_0 : Ari Z h0 a2 .byte (2 * n) f) (hi : p1 = Int32.ofNat i) (hin : i < n) (hn4 : n ≤ 4) :
    MetFree l (⟨"java/lang/StringUTF16", "checkIndex", "(I[B)V"⟩ : MethodName) (head1 (Jvm.Cond.code (⟨"java/lang/StringUTF16", "checkIndex", "(I[B)V"⟩ : MethodName) jdk_52_method_91_code 2 none :: ws) ({ frames := 2, cells := 0, slots := 0, locals := 27 } : Room)) (fun a U => a = #[(.int p1), (.ref a2)] ∧ Z.Warmed39 U.vm ∧ U.heap = h0) (fun _ _ _ _ _ => True) (fun _ U o U' => ∃ v L, o = .returned v ∧ Q23 Z p1 a2 oF i n f h0 n0 v U'.heap L ∧ FrameEnd U o U' L ({ frames := 2, cells := 0, slots := 0, locals := 27 } : Room).cells ({ frames := 2, cells := 0, slots := 0, locals := 27 } : Room).slots) := by
  refine MetFree.of_bodySF (plainFor_of_name pn_23) hisR ?_
  intro p e s m args below meth c s₁ Bd hml0 hP hK
  obtain ⟨rfl, hZ, hh⟩ := hP
  have hx := Bd.exec
  have hby := Bd.bytes
  have hlk := Bd.notSynchronized
  have hml : c.maxLocals = 2 := hml0
  have hown : s.vm.findClass "java/lang/StringUTF16" = some m.cls := findClass_of_methodNamed Bd.named
  have hnm := (name_of_methodNamed Bd.named Bd.method).1
  have X0 : Stand p l e ({ frames := 2, cells := 0, slots := 0, locals := 27 } : Room) s m #[(.int p1), (.ref a2)] below meth c s₁ [] 0 0 := Stand.of_body Bd
  have e0 : s₁.heap = h0 := by rw [← hh, Bd.state]; rfl
  have N0 := Fr.nil n0
  have K0 : Keep h0 h0 [] := Keep.refl h0 _
  show Goes p e below s ({ frames := 2, cells := 0, slots := 0, locals := 27 } : Room).cells ({ frames := 2, cells := 0, slots := 0, locals := 27 } : Room).slots (Q23 Z p1 a2 oF i n f h0 n0) s₁ (entryFrame m #[(.int p1), (.ref a2)] 2)
  refine Goes.step (fun t k => castTop (ef_23 m p1 a2) k) ?_
  refine Goes.step (fun _ k => XS.iloadN X0.here hx rfl (hb hby d23_0) rfl k) ?_
  refine Goes.step (fun _ k => XS.aloadN X0.here hx rfl (hb hby d23_1) rfl rfl k) ?_
  show Goes p e below s _ _ _ s₁ (mkF m 2 #[.val (.int p1), .val (.ref a2)] [(.ref a2), (.int p1)])
  obtain ⟨T1, X1, e1, st1⟩ := own_pure (r := some (.int (Int32.ofNat n))) (fun _ _ _ q => q) (callX X0 hx hZ (y := (⟨"java/lang/StringUTF16", "length", "([B)I"⟩ : MethodName)) hown (hw _ (List.mem_of_getElem? (i := 100) rfl)) (hw _ (List.mem_of_getElem? (i := 101) rfl)) (hw _ (List.mem_of_getElem? (i := 19) rfl)) (hw _ (List.mem_of_getElem? (i := 102) rfl)) (by decide) (W := 1) (argsL := [(.ref a2)]) (rest := [(.int p1)]) (rm24 l Z a0 hw [] a2 n f h0 n0 Z0 A_a2_0 hn4) (by decide) (by decide) (by decide) (by decide) e0 (g := (mkF m 2 #[.val (.int p1), .val (.ref a2)] [(.ref a2), (.int p1)])) rfl (by rw [hml]; rfl) (lenOf pd_23_0 rfl) rfl (by show 2 * 0 + _ ≤ _; exact Nat.le_of_eq rfl) (hb hby d23_2))
  refine Goes.step st1 ?_
  show Goes p e below s _ _ _ T1 (mkF m 5 #[.val (.int p1), .val (.ref a2)] [(.int (Int32.ofNat n)), (.int p1)])
  obtain ⟨T2, X2, e2, st2⟩ := own_pure (r := none) (fun _ _ _ q => q) (callX X1 hx hZ (y := (⟨"java/lang/String", "checkIndex", "(II)V"⟩ : MethodName)) hown (hw _ (List.mem_of_getElem? (i := 103) rfl)) (hw _ (List.mem_of_getElem? (i := 65) rfl)) (hw _ (List.mem_of_getElem? (i := 4) rfl)) (hw _ (List.mem_of_getElem? (i := 66) rfl)) (by decide) (W := 0) (argsL := [(.int p1), (.int (Int32.ofNat n))]) (rest := []) (rm14 l Z a0 hw [] p1 (Int32.ofNat n) oF h0 n0 Z0 (OL.keep K0 all0) O4 (own_jx0 hi (by omega)) (own_jx1 hi hin (by omega))) (by decide) (by decide) (by decide) (by decide) e1 (g := (mkF m 5 #[.val (.int p1), .val (.ref a2)] [(.int (Int32.ofNat n)), (.int p1)])) rfl (by rw [hml]; rfl) (lenOf pd_23_1 rfl) rfl (by show 2 * 0 + _ ≤ _; exact Nat.le_of_eq rfl) (hb hby d23_5))
  refine Goes.step st2 ?_
  show Goes p e below s _ _ _ T2 (mkF m 8 #[.val (.int p1), .val (.ref a2)] [])
  exact Goes.outV X2 hx hlk Bd.returns (hb hby d23_8) (by rw [e2]; exact ⟨rfl, rfl, rfl⟩) (by decide) (by decide)
theorem d21_0 : decode jdk_52_method_5_code 0 = .ok (.getstatic 44, 3) := by decide +kernel
theorem d21_3 : decode jdk_52_method_5_code 3 = .ok (.ifCond .ne 25, 3) := by decide +kernel
theorem d21_28 : decode jdk_52_method_5_code 28 = .ok (.iload_n 1, 1) := by decide +kernel
theorem d21_29 : decode jdk_52_method_5_code 29 = .ok (.iconst 1, 1) := by decide +kernel
theorem d21_30 : decode jdk_52_method_5_code 30 = .ok (.ishl, 1) := by decide +kernel
theorem d21_31 : decode jdk_52_method_5_code 31 = .ok (.istore_n 1, 1) := by decide +kernel
theorem d21_32 : decode jdk_52_method_5_code 32 = .ok (.aload_n 0, 1) := by decide +kernel
theorem d21_33 : decode jdk_52_method_5_code 33 = .ok (.iload_n 1, 1) := by decide +kernel
theorem d21_34 : decode jdk_52_method_5_code 34 = .ok (.iinc 1 1, 3) := by decide +kernel
theorem d21_37 : decode jdk_52_method_5_code 37 = .ok (.baload, 1) := by decide +kernel
theorem d21_38 : decode jdk_52_method_5_code 38 = .ok (.sipush 255, 3) := by decide +kernel
theorem d21_41 : decode jdk_52_method_5_code 41 = .ok (.iand, 1) := by decide +kernel
theorem d21_42 : decode jdk_52_method_5_code 42 = .ok (.getstatic 59, 3) := by decide +kernel
theorem d21_45 : decode jdk_52_method_5_code 45 = .ok (.ishl, 1) := by decide +kernel
theorem d21_46 : decode jdk_52_method_5_code 46 = .ok (.aload_n 0, 1) := by decide +kernel
theorem d21_47 : decode jdk_52_method_5_code 47 = .ok (.iload_n 1, 1) := by decide +kernel
theorem d21_48 : decode jdk_52_method_5_code 48 = .ok (.baload, 1) := by decide +kernel
theorem d21_49 : decode jdk_52_method_5_code 49 = .ok (.sipush 255, 3) := by decide +kernel
theorem d21_52 : decode jdk_52_method_5_code 52 = .ok (.iand, 1) := by decide +kernel
theorem d21_53 : decode jdk_52_method_5_code 53 = .ok (.getstatic 63, 3) := by decide +kernel
theorem d21_56 : decode jdk_52_method_5_code 56 = .ok (.ishl, 1) := by decide +kernel
theorem d21_57 : decode jdk_52_method_5_code 57 = .ok (.ior, 1) := by decide +kernel
theorem d21_58 : decode jdk_52_method_5_code 58 = .ok (.i2c, 1) := by decide +kernel
theorem d21_59 : decode jdk_52_method_5_code 59 = .ok (.ireturn, 1) := by decide +kernel
theorem pn_21 : plainName "java/lang/StringUTF16" = true := by first | (simp [plainName, overriddenIn]; done) | decide +kernel
theorem ef_21 (m : MethodId) (a1 : Addr) (p2 : Int32) : entryFrame m #[(.ref a1), (.int p2)] 2 = mkF m 0 #[.val (.ref a1), .val (.int p2)] [] := by first | (simp [entryFrame, mkF, argsToLocals, Value.category]; done) | rfl
def Q21 (Z : State) (a1 : Addr) (p2 : Int32) (i : Nat) (n : Nat) (f : Nat → Int32) (h0 : Heap) (n0 : Nat) (v : Option Value) (h : Heap) (L : List Loc) : Prop := PQ h0 (some (.int (own_g1 (f (2 * i)) (f (2 * i + 1))))) v h L
set_option maxRecDepth 65536 in
set_option maxHeartbeats 40000000 in
theorem rm21 (l : Launch) (Z : State) (a0 : Array Value) (hw : ∀ d ∈ tables_1, d.before a0 Z = true) (ws : List Jvm.Cond) (a1 : Addr) (p2 : Int32) (i : Nat) (n : Nat) (f : Nat → Int32) (h0 : Heap) (n0 : Nat) (Z0 : n0 ≤ h0.size) (OL : Old Z n0 h0) (O5 : Sta Z Z.heap "java/lang/StringUTF16" "$assertionsDisabled" "Z" (.int (1 : Int32))) (O6 : Sta Z Z.heap "java/lang/StringUTF16" "HI_BYTE_SHIFT" "I" (.int (0 : Int32))) (O7 : Sta Z Z.heap "java/lang/StringUTF16" "LO_BYTE_SHIFT" "I" (.int (8 : Int32))) (A_a1_0 : Ari Z h0 a1 .byte (2 * n) f) (hi : p2 = Int32.ofNat i) (hin : i < n) (hn4 : n ≤ 4) :
    MetFree l (⟨"java/lang/StringUTF16", "getChar", "([BI)C"⟩ : MethodName) (head1 (Jvm.Cond.code (⟨"java/lang/StringUTF16", "getChar", "([BI)C"⟩ : MethodName) jdk_52_method_5_code 2 (some .char) :: ws) ({ frames := 0, cells := 0, slots := 0, locals := 0 } : Room)) (fun a U => a = #[(.ref a1), (.int p2)] ∧ Z.Warmed39 U.vm ∧ U.heap = h0) (fun _ _ _ _ _ => True) (fun _ U o U' => ∃ v L, o = .returned v ∧ Q21 Z a1 p2 i n f h0 n0 v U'.heap L ∧ FrameEnd U o U' L ({ frames := 0, cells := 0, slots := 0, locals := 0 } : Room).cells ({ frames := 0, cells := 0, slots := 0, locals := 0 } : Room).slots) := by
  refine MetFree.of_bodySF (plainFor_of_name pn_21) hisR ?_
  intro p e s m args below meth c s₁ Bd hml0 hP hK
  obtain ⟨rfl, hZ, hh⟩ := hP
  have hx := Bd.exec
  have hby := Bd.bytes
  have hlk := Bd.notSynchronized
  have hml : c.maxLocals = 2 := hml0
  have hown : s.vm.findClass "java/lang/StringUTF16" = some m.cls := findClass_of_methodNamed Bd.named
  have hnm := (name_of_methodNamed Bd.named Bd.method).1
  have X0 : Stand p l e ({ frames := 0, cells := 0, slots := 0, locals := 0 } : Room) s m #[(.ref a1), (.int p2)] below meth c s₁ [] 0 0 := Stand.of_body Bd
  have e0 : s₁.heap = h0 := by rw [← hh, Bd.state]; rfl
  have N0 := Fr.nil n0
  have K0 : Keep h0 h0 [] := Keep.refl h0 _
  show Goes p e below s ({ frames := 0, cells := 0, slots := 0, locals := 0 } : Room).cells ({ frames := 0, cells := 0, slots := 0, locals := 0 } : Room).slots (Q21 Z a1 p2 i n f h0 n0) s₁ (entryFrame m #[(.ref a1), (.int p2)] 2)
  refine Goes.step (fun t k => castTop (ef_21 m a1 p2) k) ?_
  obtain ⟨T1, X1, e1, st1⟩ := getS2 X0 hx hZ hown (host := "") (Or.inl (hw _ (List.mem_of_getElem? (i := 88) rfl))) Via.refl e0 (O5.ext (OL.keep K0 all0).2) (g := (mkF m 0 #[.val (.ref a1), .val (.int p2)] [])) rfl (hb hby d21_0)
  refine Goes.step st1 ?_
  show Goes p e below s _ _ _ T1 (mkF m 3 #[.val (.ref a1), .val (.int p2)] [(.int (1 : Int32))])
  refine Goes.step (fun _ k => XS.ifYes X1.here hx rfl (pc0 := 3) (pc' := 28) rfl (hb hby d21_3) rfl ((if0 _ _).trans (feq (by decide : ¬ ((1 : Int32) = (0 : Int32)))).2) (by decide) (by decide) k) ?_
  show Goes p e below s _ _ _ T1 (mkF m 28 #[.val (.ref a1), .val (.int p2)] [])
  refine Goes.step (fun _ k => XS.iloadN X1.here hx rfl (hb hby d21_28) rfl k) ?_
  refine Goes.step (fun _ k => XS.iconst X1.here hx rfl (hb hby d21_29) k) ?_
  show Goes p e below s _ _ _ T1 (mkF m 30 #[.val (.ref a1), .val (.int p2)] [(.int (1 : Int32)), (.int p2)])
  refine Goes.step (fun _ k => XS.ishl X1.here hx rfl (hb hby d21_30) rfl k) ?_
  show Goes p e below s _ _ _ T1 (mkF m 31 #[.val (.ref a1), .val (.int p2)] [(.int (p2 <<< ((1 : Int32) &&& 31)))])
  rw [own_twoP hi (by omega)]
  refine Goes.step (fun _ k => XS.istoreN X1.here hx rfl (hb hby d21_31) rfl (l' := #[.val (.ref a1), .val (.int (Int32.ofNat (2 * i)))]) rfl k) ?_
  refine Goes.step (fun _ k => XS.aloadN X1.here hx rfl (hb hby d21_32) rfl rfl k) ?_
  show Goes p e below s _ _ _ T1 (mkF m 33 #[.val (.ref a1), .val (.int (Int32.ofNat (2 * i)))] [(.ref a1)])
  refine Goes.step (fun _ k => XS.iloadN X1.here hx rfl (hb hby d21_33) rfl k) ?_
  refine Goes.step (fun _ k => XS.iinc X1.here hx rfl (hb hby d21_34) rfl (l' := #[.val (.ref a1), .val (.int ((Int32.ofNat (2 * i)) + (1 : Int32)))]) rfl k) ?_
  show Goes p e below s _ _ _ T1 (mkF m 37 #[.val (.ref a1), .val (.int ((Int32.ofNat (2 * i)) + (1 : Int32)))] [(.int (Int32.ofNat (2 * i))), (.ref a1)])
  refine Goes.step (fun _ k => rdB X1 hx hZ e1 A_a1_0 (2 * i) rfl (by omega) (g := (mkF m 37 #[.val (.ref a1), .val (.int ((Int32.ofNat (2 * i)) + (1 : Int32)))] [(.int (Int32.ofNat (2 * i))), (.ref a1)])) rfl rfl (hb hby d21_37) _ k) ?_
  show Goes p e below s _ _ _ T1 (mkF m 38 #[.val (.ref a1), .val (.int ((Int32.ofNat (2 * i)) + (1 : Int32)))] [(.int (f (2 * i)))])
  refine Goes.step (fun _ k => XS.sipush X1.here hx rfl (hb hby d21_38) k) ?_
  refine Goes.step (fun _ k => XS.iand X1.here hx rfl (hb hby d21_41) rfl k) ?_
  show Goes p e below s _ _ _ T1 (mkF m 42 #[.val (.ref a1), .val (.int ((Int32.ofNat (2 * i)) + (1 : Int32)))] [(.int ((f (2 * i)) &&& (255 : Int32)))])
  obtain ⟨T2, X2, e2, st2⟩ := getS2 X1 hx hZ hown (host := "") (Or.inl (hw _ (List.mem_of_getElem? (i := 89) rfl))) Via.refl e1 (O6.ext (OL.keep K0 all0).2) (g := (mkF m 42 #[.val (.ref a1), .val (.int ((Int32.ofNat (2 * i)) + (1 : Int32)))] [(.int ((f (2 * i)) &&& (255 : Int32)))])) rfl (hb hby d21_42)
  refine Goes.step st2 ?_
  show Goes p e below s _ _ _ T2 (mkF m 45 #[.val (.ref a1), .val (.int ((Int32.ofNat (2 * i)) + (1 : Int32)))] [(.int (0 : Int32)), (.int ((f (2 * i)) &&& (255 : Int32)))])
  refine Goes.step (fun _ k => XS.ishl X2.here hx rfl (hb hby d21_45) rfl k) ?_
  show Goes p e below s _ _ _ T2 (mkF m 46 #[.val (.ref a1), .val (.int ((Int32.ofNat (2 * i)) + (1 : Int32)))] [(.int (((f (2 * i)) &&& (255 : Int32)) <<< ((0 : Int32) &&& 31)))])
  refine Goes.step (fun _ k => XS.aloadN X2.here hx rfl (hb hby d21_46) rfl rfl k) ?_
  refine Goes.step (fun _ k => XS.iloadN X2.here hx rfl (hb hby d21_47) rfl k) ?_
  show Goes p e below s _ _ _ T2 (mkF m 48 #[.val (.ref a1), .val (.int ((Int32.ofNat (2 * i)) + (1 : Int32)))] [(.int ((Int32.ofNat (2 * i)) + (1 : Int32))), (.ref a1), (.int (((f (2 * i)) &&& (255 : Int32)) <<< ((0 : Int32) &&& 31)))])
  refine Goes.step (fun _ k => rdB X2 hx hZ e2 A_a1_0 (2 * i + 1) (own_succ (2 * i)) (by omega) (g := (mkF m 48 #[.val (.ref a1), .val (.int ((Int32.ofNat (2 * i)) + (1 : Int32)))] [(.int ((Int32.ofNat (2 * i)) + (1 : Int32))), (.ref a1), (.int (((f (2 * i)) &&& (255 : Int32)) <<< ((0 : Int32) &&& 31)))])) rfl rfl (hb hby d21_48) _ k) ?_
  show Goes p e below s _ _ _ T2 (mkF m 49 #[.val (.ref a1), .val (.int ((Int32.ofNat (2 * i)) + (1 : Int32)))] [(.int (f (2 * i + 1))), (.int (((f (2 * i)) &&& (255 : Int32)) <<< ((0 : Int32) &&& 31)))])
  refine Goes.step (fun _ k => XS.sipush X2.here hx rfl (hb hby d21_49) k) ?_
  refine Goes.step (fun _ k => XS.iand X2.here hx rfl (hb hby d21_52) rfl k) ?_
  show Goes p e below s _ _ _ T2 (mkF m 53 #[.val (.ref a1), .val (.int ((Int32.ofNat (2 * i)) + (1 : Int32)))] [(.int ((f (2 * i + 1)) &&& (255 : Int32))), (.int (((f (2 * i)) &&& (255 : Int32)) <<< ((0 : Int32) &&& 31)))])
  obtain ⟨T3, X3, e3, st3⟩ := getS2 X2 hx hZ hown (host := "") (Or.inl (hw _ (List.mem_of_getElem? (i := 90) rfl))) Via.refl e2 (O7.ext (OL.keep K0 all0).2) (g := (mkF m 53 #[.val (.ref a1), .val (.int ((Int32.ofNat (2 * i)) + (1 : Int32)))] [(.int ((f (2 * i + 1)) &&& (255 : Int32))), (.int (((f (2 * i)) &&& (255 : Int32)) <<< ((0 : Int32) &&& 31)))])) rfl (hb hby d21_53)
  refine Goes.step st3 ?_
  show Goes p e below s _ _ _ T3 (mkF m 56 #[.val (.ref a1), .val (.int ((Int32.ofNat (2 * i)) + (1 : Int32)))] [(.int (8 : Int32)), (.int ((f (2 * i + 1)) &&& (255 : Int32))), (.int (((f (2 * i)) &&& (255 : Int32)) <<< ((0 : Int32) &&& 31)))])
  refine Goes.step (fun _ k => XS.ishl X3.here hx rfl (hb hby d21_56) rfl k) ?_
  show Goes p e below s _ _ _ T3 (mkF m 57 #[.val (.ref a1), .val (.int ((Int32.ofNat (2 * i)) + (1 : Int32)))] [(.int (((f (2 * i + 1)) &&& (255 : Int32)) <<< ((8 : Int32) &&& 31))), (.int (((f (2 * i)) &&& (255 : Int32)) <<< ((0 : Int32) &&& 31)))])
  refine Goes.step (fun _ k => XS.ior X3.here hx rfl (hb hby d21_57) rfl k) ?_
  show Goes p e below s _ _ _ T3 (mkF m 58 #[.val (.ref a1), .val (.int ((Int32.ofNat (2 * i)) + (1 : Int32)))] [(.int ((((f (2 * i)) &&& (255 : Int32)) <<< ((0 : Int32) &&& 31)) ||| (((f (2 * i + 1)) &&& (255 : Int32)) <<< ((8 : Int32) &&& 31))))])
  refine Goes.step (fun _ k => XS.i2c X3.here hx rfl (hb hby d21_58) rfl k) ?_
  show Goes p e below s _ _ _ T3 (mkF m 59 #[.val (.ref a1), .val (.int ((Int32.ofNat (2 * i)) + (1 : Int32)))] [(.int (((((f (2 * i)) &&& (255 : Int32)) <<< ((0 : Int32) &&& 31)) ||| (((f (2 * i + 1)) &&& (255 : Int32)) <<< ((8 : Int32) &&& 31))).toUInt32.toUInt16.toUInt32.toInt32))])
  exact Goes.outN X3 hx hlk (t := .char) Bd.returns (by simp) (hb hby d21_59) (by rw [e3]; exact ⟨rfl, rfl, rfl⟩) (by decide) (by decide)
theorem d22_0 : decode jdk_52_method_83_code 0 = .ok (.iload_n 1, 1) := by decide +kernel
theorem d22_1 : decode jdk_52_method_83_code 1 = .ok (.aload_n 0, 1) := by decide +kernel
theorem d22_2 : decode jdk_52_method_83_code 2 = .ok (.invokestatic 67, 3) := by decide +kernel
theorem d22_5 : decode jdk_52_method_83_code 5 = .ok (.aload_n 0, 1) := by decide +kernel
theorem d22_6 : decode jdk_52_method_83_code 6 = .ok (.iload_n 1, 1) := by decide +kernel
theorem d22_7 : decode jdk_52_method_83_code 7 = .ok (.invokestatic 71, 3) := by decide +kernel
theorem d22_10 : decode jdk_52_method_83_code 10 = .ok (.ireturn, 1) := by decide +kernel
theorem pn_22 : plainName "java/lang/StringUTF16" = true := by first | (simp [plainName, overriddenIn]; done) | decide +kernel
theorem pd_22_0 : parseMethodDescriptor "(I[B)V" = some ⟨[.int, (.array .byte)], none⟩ := by decide +kernel
theorem pd_22_1 : parseMethodDescriptor "([BI)C" = some ⟨[(.array .byte), .int], some .char⟩ := by decide +kernel
theorem ef_22 (m : MethodId) (a1 : Addr) (p2 : Int32) : entryFrame m #[(.ref a1), (.int p2)] 2 = mkF m 0 #[.val (.ref a1), .val (.int p2)] [] := by first | (simp [entryFrame, mkF, argsToLocals, Value.category]; done) | rfl
def Q22 (Z : State) (a1 : Addr) (p2 : Int32) (oF : Option Addr) (i : Nat) (n : Nat) (f : Nat → Int32) (h0 : Heap) (n0 : Nat) (v : Option Value) (h : Heap) (L : List Loc) : Prop := PQ h0 (some (.int (nar .char (own_g1 (f (2 * i)) (f (2 * i + 1)))))) v h L
set_option maxRecDepth 65536 in
set_option maxHeartbeats 40000000 in
theorem rm22 (l : Launch) (Z : State) (a0 : Array Value) (hw : ∀ d ∈ tables_1, d.before a0 Z = true) (ws : List Jvm.Cond) (a1 : Addr) (p2 : Int32) (oF : Option Addr) (i : Nat) (n : Nat) (f : Nat → Int32) (h0 : Heap) (n0 : Nat) (Z0 : n0 ≤ h0.size) (OL : Old Z n0 h0) (O4 : Sta Z Z.heap "jdk/internal/util/Preconditions" "SIOOBE_FORMATTER" "Ljava/util/function/BiFunction;" (ov oF)) (O5 : Sta Z Z.heap "java/lang/StringUTF16" "$assertionsDisabled" "Z" (.int (1 : Int32))) (O6 : Sta Z Z.heap "java/lang/StringUTF16" "HI_BYTE_SHIFT" "I" (.int (0 : Int32))) (O7 : Sta Z Z.heap "java/lang/StringUTF16" "LO_BYTE_SHIFT" "I" (.int (8 : Int32))) (A_a1_0 : Ari Z h0 a1 .byte (2 * n) f) (hi : p2 = Int32.ofNat i) (hin : i < n) (hn4 : n ≤ 4) :
    MetFree l (⟨"java/lang/StringUTF16", "charAt", "([BI)C"⟩ : MethodName) (head1 (Jvm.Cond.code (⟨"java/lang/StringUTF16", "charAt", "([BI)C"⟩ : MethodName) jdk_52_method_83_code 2 (some .char) :: ws) ({ frames := 3, cells := 0, slots := 0, locals := 40 } : Room)) (fun a U => a = #[(.ref a1), (.int p2)] ∧ Z.Warmed39 U.vm ∧ U.heap = h0) (fun _ _ _ _ _ => True) (fun _ U o U' => ∃ v L, o = .returned v ∧ Q22 Z a1 p2 oF i n f h0 n0 v U'.heap L ∧ FrameEnd U o U' L ({ frames := 3, cells := 0, slots := 0, locals := 40 } : Room).cells ({ frames := 3, cells := 0, slots := 0, locals := 40 } : Room).slots) := by
  refine MetFree.of_bodySF (plainFor_of_name pn_22) hisR ?_
  intro p e s m args below meth c s₁ Bd hml0 hP hK
  obtain ⟨rfl, hZ, hh⟩ := hP
  have hx := Bd.exec
  have hby := Bd.bytes
  have hlk := Bd.notSynchronized
  have hml : c.maxLocals = 2 := hml0
  have hown : s.vm.findClass "java/lang/StringUTF16" = some m.cls := findClass_of_methodNamed Bd.named
  have hnm := (name_of_methodNamed Bd.named Bd.method).1
  have X0 : Stand p l e ({ frames := 3, cells := 0, slots := 0, locals := 40 } : Room) s m #[(.ref a1), (.int p2)] below meth c s₁ [] 0 0 := Stand.of_body Bd
  have e0 : s₁.heap = h0 := by rw [← hh, Bd.state]; rfl
  have N0 := Fr.nil n0
  have K0 : Keep h0 h0 [] := Keep.refl h0 _
  show Goes p e below s ({ frames := 3, cells := 0, slots := 0, locals := 40 } : Room).cells ({ frames := 3, cells := 0, slots := 0, locals := 40 } : Room).slots (Q22 Z a1 p2 oF i n f h0 n0) s₁ (entryFrame m #[(.ref a1), (.int p2)] 2)
  refine Goes.step (fun t k => castTop (ef_22 m a1 p2) k) ?_
  refine Goes.step (fun _ k => XS.iloadN X0.here hx rfl (hb hby d22_0) rfl k) ?_
  refine Goes.step (fun _ k => XS.aloadN X0.here hx rfl (hb hby d22_1) rfl rfl k) ?_
  show Goes p e below s _ _ _ s₁ (mkF m 2 #[.val (.ref a1), .val (.int p2)] [(.ref a1), (.int p2)])
  obtain ⟨T1, X1, e1, st1⟩ := own_pure (r := none) (fun _ _ _ q => q) (callX X0 hx hZ (y := (⟨"java/lang/StringUTF16", "checkIndex", "(I[B)V"⟩ : MethodName)) hown (hw _ (List.mem_of_getElem? (i := 97) rfl)) (hw _ (List.mem_of_getElem? (i := 98) rfl)) (hw _ (List.mem_of_getElem? (i := 19) rfl)) (hw _ (List.mem_of_getElem? (i := 99) rfl)) (by decide) (W := 0) (argsL := [(.int p2), (.ref a1)]) (rest := []) (rm23 l Z a0 hw [] p2 a1 oF i n f h0 n0 Z0 (OL.keep K0 all0) O4 A_a1_0 hi hin hn4) (by decide) (by decide) (by decide) (by decide) e0 (g := (mkF m 2 #[.val (.ref a1), .val (.int p2)] [(.ref a1), (.int p2)])) rfl (by rw [hml]; rfl) (lenOf pd_22_0 rfl) rfl (by show 2 * 0 + _ ≤ _; exact Nat.le_of_eq rfl) (hb hby d22_2))
  refine Goes.step st1 ?_
  show Goes p e below s _ _ _ T1 (mkF m 5 #[.val (.ref a1), .val (.int p2)] [])
  refine Goes.step (fun _ k => XS.aloadN X1.here hx rfl (hb hby d22_5) rfl rfl k) ?_
  refine Goes.step (fun _ k => XS.iloadN X1.here hx rfl (hb hby d22_6) rfl k) ?_
  show Goes p e below s _ _ _ T1 (mkF m 7 #[.val (.ref a1), .val (.int p2)] [(.int p2), (.ref a1)])
  obtain ⟨T2, X2, e2, st2⟩ := own_pure (r := some (.int (own_g1 (f (2 * i)) (f (2 * i + 1))))) (fun _ _ _ q => q) (callX X1 hx hZ (y := (⟨"java/lang/StringUTF16", "getChar", "([BI)C"⟩ : MethodName)) hown (hw _ (List.mem_of_getElem? (i := 91) rfl)) (hw _ (List.mem_of_getElem? (i := 92) rfl)) (hw _ (List.mem_of_getElem? (i := 19) rfl)) (hw _ (List.mem_of_getElem? (i := 93) rfl)) (by decide) (W := 0) (argsL := [(.ref a1), (.int p2)]) (rest := []) (rm21 l Z a0 hw [] a1 p2 i n f h0 n0 Z0 (OL.keep K0 all0) O5 O6 O7 A_a1_0 hi hin hn4) (by decide) (by decide) (by decide) (by decide) e1 (g := (mkF m 7 #[.val (.ref a1), .val (.int p2)] [(.int p2), (.ref a1)])) rfl (by rw [hml]; rfl) (lenOf pd_22_1 rfl) rfl (by show 2 * 0 + _ ≤ _; exact Nat.le_of_eq rfl) (hb hby d22_7))
  refine Goes.step st2 ?_
  show Goes p e below s _ _ _ T2 (mkF m 10 #[.val (.ref a1), .val (.int p2)] [(.int (own_g1 (f (2 * i)) (f (2 * i + 1))))])
  exact Goes.outN X2 hx hlk (t := .char) Bd.returns (by simp) (hb hby d22_10) (by rw [e2]; exact ⟨rfl, rfl, rfl⟩) (by decide) (by decide)
theorem d20_0 : decode jdk_52_method_4_code 0 = .ok (.getstatic 44, 3) := by decide +kernel
theorem d20_3 : decode jdk_52_method_4_code 3 = .ok (.ifCond .ne 25, 3) := by decide +kernel
theorem d20_28 : decode jdk_52_method_4_code 28 = .ok (.iload_n 1, 1) := by decide +kernel
theorem d20_29 : decode jdk_52_method_4_code 29 = .ok (.iconst 1, 1) := by decide +kernel
theorem d20_30 : decode jdk_52_method_4_code 30 = .ok (.ishl, 1) := by decide +kernel
theorem d20_31 : decode jdk_52_method_4_code 31 = .ok (.istore_n 1, 1) := by decide +kernel
theorem d20_32 : decode jdk_52_method_4_code 32 = .ok (.aload_n 0, 1) := by decide +kernel
theorem d20_33 : decode jdk_52_method_4_code 33 = .ok (.iload_n 1, 1) := by decide +kernel
theorem d20_34 : decode jdk_52_method_4_code 34 = .ok (.iinc 1 1, 3) := by decide +kernel
theorem d20_37 : decode jdk_52_method_4_code 37 = .ok (.iload_n 2, 1) := by decide +kernel
theorem d20_38 : decode jdk_52_method_4_code 38 = .ok (.getstatic 59, 3) := by decide +kernel
theorem d20_41 : decode jdk_52_method_4_code 41 = .ok (.ishr, 1) := by decide +kernel
theorem d20_42 : decode jdk_52_method_4_code 42 = .ok (.i2b, 1) := by decide +kernel
theorem d20_43 : decode jdk_52_method_4_code 43 = .ok (.bastore, 1) := by decide +kernel
theorem d20_44 : decode jdk_52_method_4_code 44 = .ok (.aload_n 0, 1) := by decide +kernel
theorem d20_45 : decode jdk_52_method_4_code 45 = .ok (.iload_n 1, 1) := by decide +kernel
theorem d20_46 : decode jdk_52_method_4_code 46 = .ok (.iload_n 2, 1) := by decide +kernel
theorem d20_47 : decode jdk_52_method_4_code 47 = .ok (.getstatic 63, 3) := by decide +kernel
theorem d20_50 : decode jdk_52_method_4_code 50 = .ok (.ishr, 1) := by decide +kernel
theorem d20_51 : decode jdk_52_method_4_code 51 = .ok (.i2b, 1) := by decide +kernel
theorem d20_52 : decode jdk_52_method_4_code 52 = .ok (.bastore, 1) := by decide +kernel
theorem d20_53 : decode jdk_52_method_4_code 53 = .ok (.return_, 1) := by decide +kernel
theorem pn_20 : plainName "java/lang/StringUTF16" = true := by first | (simp [plainName, overriddenIn]; done) | decide +kernel
theorem ef_20 (m : MethodId) (a1 : Addr) (p2 : Int32) (p3 : Int32) : entryFrame m #[(.ref a1), (.int p2), (.int p3)] 3 = mkF m 0 #[.val (.ref a1), .val (.int p2), .val (.int p3)] [] := by first | (simp [entryFrame, mkF, argsToLocals, Value.category]; done) | rfl
def Q20 (Z : State) (a1 : Addr) (p2 : Int32) (p3 : Int32) (i : Nat) (n : Nat) (f : Nat → Int32) (h0 : Heap) (n0 : Nat) (v : Option Value) (h : Heap) (L : List Loc) : Prop := v = none ∧ Fr n0 L ∧ Keep h0 h [a1] ∧ Ari Z h a1 .byte (2 * n) (updI (updI f (2 * i) (own_bb (p3 >>> ((0 : Int32) &&& 31)))) (2 * i + 1) (own_bb (p3 >>> ((8 : Int32) &&& 31))))
set_option maxRecDepth 65536 in
set_option maxHeartbeats 40000000 in
theorem rm20 (l : Launch) (Z : State) (a0 : Array Value) (hw : ∀ d ∈ tables_1, d.before a0 Z = true) (ws : List Jvm.Cond) (a1 : Addr) (p2 : Int32) (p3 : Int32) (i : Nat) (n : Nat) (f : Nat → Int32) (h0 : Heap) (n0 : Nat) (Z0 : n0 ≤ h0.size) (OL : Old Z n0 h0) (O5 : Sta Z Z.heap "java/lang/StringUTF16" "$assertionsDisabled" "Z" (.int (1 : Int32))) (O6 : Sta Z Z.heap "java/lang/StringUTF16" "HI_BYTE_SHIFT" "I" (.int (0 : Int32))) (O7 : Sta Z Z.heap "java/lang/StringUTF16" "LO_BYTE_SHIFT" "I" (.int (8 : Int32))) (A_a1_0 : Ari Z h0 a1 .byte (2 * n) f) (hi : p2 = Int32.ofNat i) (hin : i < n) (hn4 : n ≤ 4) (ge_a1 : n0 ≤ a1) :
    MetFree l (⟨"java/lang/StringUTF16", "putChar", "([BII)V"⟩ : MethodName) (head1 (Jvm.Cond.code (⟨"java/lang/StringUTF16", "putChar", "([BII)V"⟩ : MethodName) jdk_52_method_4_code 3 none :: ws) ({ frames := 0, cells := 0, slots := 0, locals := 0 } : Room)) (fun a U => a = #[(.ref a1), (.int p2), (.int p3)] ∧ Z.Warmed39 U.vm ∧ U.heap = h0) (fun _ _ _ _ _ => True) (fun _ U o U' => ∃ v L, o = .returned v ∧ Q20 Z a1 p2 p3 i n f h0 n0 v U'.heap L ∧ FrameEnd U o U' L ({ frames := 0, cells := 0, slots := 0, locals := 0 } : Room).cells ({ frames := 0, cells := 0, slots := 0, locals := 0 } : Room).slots) := by
  refine MetFree.of_bodySF (plainFor_of_name pn_20) hisR ?_
  intro p e s m args below meth c s₁ Bd hml0 hP hK
  obtain ⟨rfl, hZ, hh⟩ := hP
  have hx := Bd.exec
  have hby := Bd.bytes
  have hlk := Bd.notSynchronized
  have hml : c.maxLocals = 3 := hml0
  have hown : s.vm.findClass "java/lang/StringUTF16" = some m.cls := findClass_of_methodNamed Bd.named
  have hnm := (name_of_methodNamed Bd.named Bd.method).1
  have X0 : Stand p l e ({ frames := 0, cells := 0, slots := 0, locals := 0 } : Room) s m #[(.ref a1), (.int p2), (.int p3)] below meth c s₁ [] 0 0 := Stand.of_body Bd
  have e0 : s₁.heap = h0 := by rw [← hh, Bd.state]; rfl
  have N0 := Fr.nil n0
  have K0 : Keep h0 h0 [a1] := Keep.refl h0 _
  show Goes p e below s ({ frames := 0, cells := 0, slots := 0, locals := 0 } : Room).cells ({ frames := 0, cells := 0, slots := 0, locals := 0 } : Room).slots (Q20 Z a1 p2 p3 i n f h0 n0) s₁ (entryFrame m #[(.ref a1), (.int p2), (.int p3)] 3)
  refine Goes.step (fun t k => castTop (ef_20 m a1 p2 p3) k) ?_
  obtain ⟨T1, X1, e1, st1⟩ := getS2 X0 hx hZ hown (host := "") (Or.inl (hw _ (List.mem_of_getElem? (i := 88) rfl))) Via.refl e0 (O5.ext (OL.keep K0 (allS ge_a1 all0)).2) (g := (mkF m 0 #[.val (.ref a1), .val (.int p2), .val (.int p3)] [])) rfl (hb hby d20_0)
  refine Goes.step st1 ?_
  show Goes p e below s _ _ _ T1 (mkF m 3 #[.val (.ref a1), .val (.int p2), .val (.int p3)] [(.int (1 : Int32))])
  refine Goes.step (fun _ k => XS.ifYes X1.here hx rfl (pc0 := 3) (pc' := 28) rfl (hb hby d20_3) rfl ((if0 _ _).trans (feq (by decide : ¬ ((1 : Int32) = (0 : Int32)))).2) (by decide) (by decide) k) ?_
  show Goes p e below s _ _ _ T1 (mkF m 28 #[.val (.ref a1), .val (.int p2), .val (.int p3)] [])
  refine Goes.step (fun _ k => XS.iloadN X1.here hx rfl (hb hby d20_28) rfl k) ?_
  refine Goes.step (fun _ k => XS.iconst X1.here hx rfl (hb hby d20_29) k) ?_
  show Goes p e below s _ _ _ T1 (mkF m 30 #[.val (.ref a1), .val (.int p2), .val (.int p3)] [(.int (1 : Int32)), (.int p2)])
  refine Goes.step (fun _ k => XS.ishl X1.here hx rfl (hb hby d20_30) rfl k) ?_
  show Goes p e below s _ _ _ T1 (mkF m 31 #[.val (.ref a1), .val (.int p2), .val (.int p3)] [(.int (p2 <<< ((1 : Int32) &&& 31)))])
  rw [own_twoP hi (by omega)]
  refine Goes.step (fun _ k => XS.istoreN X1.here hx rfl (hb hby d20_31) rfl (l' := #[.val (.ref a1), .val (.int (Int32.ofNat (2 * i))), .val (.int p3)]) rfl k) ?_
  refine Goes.step (fun _ k => XS.aloadN X1.here hx rfl (hb hby d20_32) rfl rfl k) ?_
  show Goes p e below s _ _ _ T1 (mkF m 33 #[.val (.ref a1), .val (.int (Int32.ofNat (2 * i))), .val (.int p3)] [(.ref a1)])
  refine Goes.step (fun _ k => XS.iloadN X1.here hx rfl (hb hby d20_33) rfl k) ?_
  refine Goes.step (fun _ k => XS.iinc X1.here hx rfl (hb hby d20_34) rfl (l' := #[.val (.ref a1), .val (.int ((Int32.ofNat (2 * i)) + (1 : Int32))), .val (.int p3)]) rfl k) ?_
  show Goes p e below s _ _ _ T1 (mkF m 37 #[.val (.ref a1), .val (.int ((Int32.ofNat (2 * i)) + (1 : Int32))), .val (.int p3)] [(.int (Int32.ofNat (2 * i))), (.ref a1)])
  refine Goes.step (fun _ k => XS.iloadN X1.here hx rfl (hb hby d20_37) rfl k) ?_
  obtain ⟨T2, X2, e2, st2⟩ := getS2 X1 hx hZ hown (host := "") (Or.inl (hw _ (List.mem_of_getElem? (i := 89) rfl))) Via.refl e1 (O6.ext (OL.keep K0 (allS ge_a1 all0)).2) (g := (mkF m 38 #[.val (.ref a1), .val (.int ((Int32.ofNat (2 * i)) + (1 : Int32))), .val (.int p3)] [(.int p3), (.int (Int32.ofNat (2 * i))), (.ref a1)])) rfl (hb hby d20_38)
  refine Goes.step st2 ?_
  show Goes p e below s _ _ _ T2 (mkF m 41 #[.val (.ref a1), .val (.int ((Int32.ofNat (2 * i)) + (1 : Int32))), .val (.int p3)] [(.int (0 : Int32)), (.int p3), (.int (Int32.ofNat (2 * i))), (.ref a1)])
  refine Goes.step (fun _ k => XS.ishr X2.here hx rfl (hb hby d20_41) rfl k) ?_
  show Goes p e below s _ _ _ T2 (mkF m 42 #[.val (.ref a1), .val (.int ((Int32.ofNat (2 * i)) + (1 : Int32))), .val (.int p3)] [(.int (p3 >>> ((0 : Int32) &&& 31))), (.int (Int32.ofNat (2 * i))), (.ref a1)])
  refine Goes.step (fun _ k => XS.i2b X2.here hx rfl (hb hby d20_42) rfl k) ?_
  show Goes p e below s _ _ _ T2 (mkF m 43 #[.val (.ref a1), .val (.int ((Int32.ofNat (2 * i)) + (1 : Int32))), .val (.int p3)] [(.int ((p3 >>> ((0 : Int32) &&& 31)).toInt8.toInt32)), (.int (Int32.ofNat (2 * i))), (.ref a1)])
  obtain ⟨T3, h3, X3, e3, W3, A3, st3⟩ := stoB X2 hx hZ e2 A_a1_0 (2 * i) rfl (by omega) (g := (mkF m 43 #[.val (.ref a1), .val (.int ((Int32.ofNat (2 * i)) + (1 : Int32))), .val (.int p3)] [(.int ((p3 >>> ((0 : Int32) &&& 31)).toInt8.toInt32)), (.int (Int32.ofNat (2 * i))), (.ref a1)])) rfl rfl (hb hby d20_43)
  refine Goes.step st3 ?_
  have z_3 : n0 ≤ h3.size := by rw [W3.size]; exact Z0
  have K_3 : Keep h0 h3 [a1] := K0.wr W3 (Or.inl (List.mem_of_getElem? (i := 0) rfl))
  have N_3 := Fr.snoc X3 N0 ge_a1
  have A_a1_3 : Ari Z h3 a1 .byte (2 * n) (updI f (2 * i) (((p3 >>> ((0 : Int32) &&& 31)).toInt8.toInt32).toInt8.toInt32)) := A3
  show Goes p e below s _ _ _ T3 (mkF m 44 #[.val (.ref a1), .val (.int ((Int32.ofNat (2 * i)) + (1 : Int32))), .val (.int p3)] [])
  refine Goes.step (fun _ k => XS.aloadN X3.here hx rfl (hb hby d20_44) rfl rfl k) ?_
  refine Goes.step (fun _ k => XS.iloadN X3.here hx rfl (hb hby d20_45) rfl k) ?_
  show Goes p e below s _ _ _ T3 (mkF m 46 #[.val (.ref a1), .val (.int ((Int32.ofNat (2 * i)) + (1 : Int32))), .val (.int p3)] [(.int ((Int32.ofNat (2 * i)) + (1 : Int32))), (.ref a1)])
  refine Goes.step (fun _ k => XS.iloadN X3.here hx rfl (hb hby d20_46) rfl k) ?_
  obtain ⟨T4, X4, e4, st4⟩ := getS2 X3 hx hZ hown (host := "") (Or.inl (hw _ (List.mem_of_getElem? (i := 90) rfl))) Via.refl e3 (O7.ext (OL.keep K_3 (allS ge_a1 all0)).2) (g := (mkF m 47 #[.val (.ref a1), .val (.int ((Int32.ofNat (2 * i)) + (1 : Int32))), .val (.int p3)] [(.int p3), (.int ((Int32.ofNat (2 * i)) + (1 : Int32))), (.ref a1)])) rfl (hb hby d20_47)
  refine Goes.step st4 ?_
  show Goes p e below s _ _ _ T4 (mkF m 50 #[.val (.ref a1), .val (.int ((Int32.ofNat (2 * i)) + (1 : Int32))), .val (.int p3)] [(.int (8 : Int32)), (.int p3), (.int ((Int32.ofNat (2 * i)) + (1 : Int32))), (.ref a1)])
  refine Goes.step (fun _ k => XS.ishr X4.here hx rfl (hb hby d20_50) rfl k) ?_
  show Goes p e below s _ _ _ T4 (mkF m 51 #[.val (.ref a1), .val (.int ((Int32.ofNat (2 * i)) + (1 : Int32))), .val (.int p3)] [(.int (p3 >>> ((8 : Int32) &&& 31))), (.int ((Int32.ofNat (2 * i)) + (1 : Int32))), (.ref a1)])
  refine Goes.step (fun _ k => XS.i2b X4.here hx rfl (hb hby d20_51) rfl k) ?_
  show Goes p e below s _ _ _ T4 (mkF m 52 #[.val (.ref a1), .val (.int ((Int32.ofNat (2 * i)) + (1 : Int32))), .val (.int p3)] [(.int ((p3 >>> ((8 : Int32) &&& 31)).toInt8.toInt32)), (.int ((Int32.ofNat (2 * i)) + (1 : Int32))), (.ref a1)])
  obtain ⟨T5, h5, X5, e5, W5, A5, st5⟩ := stoB X4 hx hZ e4 A_a1_3 (2 * i + 1) (own_succ (2 * i)) (by omega) (g := (mkF m 52 #[.val (.ref a1), .val (.int ((Int32.ofNat (2 * i)) + (1 : Int32))), .val (.int p3)] [(.int ((p3 >>> ((8 : Int32) &&& 31)).toInt8.toInt32)), (.int ((Int32.ofNat (2 * i)) + (1 : Int32))), (.ref a1)])) rfl rfl (hb hby d20_52)
  refine Goes.step st5 ?_
  have z_5 : n0 ≤ h5.size := by rw [W5.size]; exact z_3
  have K_5 : Keep h0 h5 [a1] := K_3.wr W5 (Or.inl (List.mem_of_getElem? (i := 0) rfl))
  have N_5 := Fr.snoc X5 N_3 ge_a1
  have A_a1_5 : Ari Z h5 a1 .byte (2 * n) (updI (updI f (2 * i) (((p3 >>> ((0 : Int32) &&& 31)).toInt8.toInt32).toInt8.toInt32)) (2 * i + 1) (((p3 >>> ((8 : Int32) &&& 31)).toInt8.toInt32).toInt8.toInt32)) := A5
  show Goes p e below s _ _ _ T5 (mkF m 53 #[.val (.ref a1), .val (.int ((Int32.ofNat (2 * i)) + (1 : Int32))), .val (.int p3)] [])
  exact Goes.outV X5 hx hlk Bd.returns (hb hby d20_53) (by rw [e5]; exact ⟨rfl, N_5, K_5, A_a1_5⟩) (by decide) (by decide)
theorem d19_0 : decode jdk_52_method_3_code 0 = .ok (.iload_n 0, 1) := by decide +kernel
theorem d19_1 : decode jdk_52_method_3_code 1 = .ok (.ifCond .ge 11, 3) := by decide +kernel
theorem d19_12 : decode jdk_52_method_3_code 12 = .ok (.iload_n 0, 1) := by decide +kernel
theorem d19_13 : decode jdk_52_method_3_code 13 = .ok (.ldc 20, 2) := by decide +kernel
theorem d19_15 : decode jdk_52_method_3_code 15 = .ok (.if_icmp .lt 40, 3) := by decide +kernel
theorem d19_55 : decode jdk_52_method_3_code 55 = .ok (.iload_n 0, 1) := by decide +kernel
theorem d19_56 : decode jdk_52_method_3_code 56 = .ok (.iconst 1, 1) := by decide +kernel
theorem d19_57 : decode jdk_52_method_3_code 57 = .ok (.ishl, 1) := by decide +kernel
theorem d19_58 : decode jdk_52_method_3_code 58 = .ok (.ireturn, 1) := by decide +kernel
theorem pn_19 : plainName "java/lang/StringUTF16" = true := by first | (simp [plainName, overriddenIn]; done) | decide +kernel
theorem ef_19 (m : MethodId) (p1 : Int32) : entryFrame m #[(.int p1)] 1 = mkF m 0 #[.val (.int p1)] [] := by first | (simp [entryFrame, mkF, argsToLocals, Value.category]; done) | rfl
def Q19 (Z : State) (p1 : Int32) (n : Nat) (h0 : Heap) (n0 : Nat) (v : Option Value) (h : Heap) (L : List Loc) : Prop := PQ h0 (some (.int (Int32.ofNat (2 * n)))) v h L
set_option maxRecDepth 65536 in
set_option maxHeartbeats 40000000 in
theorem rm19 (l : Launch) (Z : State) (a0 : Array Value) (hw : ∀ d ∈ tables_1, d.before a0 Z = true) (ws : List Jvm.Cond) (p1 : Int32) (n : Nat) (h0 : Heap) (n0 : Nat) (Z0 : n0 ≤ h0.size) (hi : p1 = Int32.ofNat n) (hn4 : n ≤ 4) :
    MetFree l (⟨"java/lang/StringUTF16", "newBytesLength", "(I)I"⟩ : MethodName) (head1 (Jvm.Cond.code (⟨"java/lang/StringUTF16", "newBytesLength", "(I)I"⟩ : MethodName) jdk_52_method_3_code 1 (some .int) :: ws) ({ frames := 0, cells := 0, slots := 0, locals := 0 } : Room)) (fun a U => a = #[(.int p1)] ∧ Z.Warmed39 U.vm ∧ U.heap = h0) (fun _ _ _ _ _ => True) (fun _ U o U' => ∃ v L, o = .returned v ∧ Q19 Z p1 n h0 n0 v U'.heap L ∧ FrameEnd U o U' L ({ frames := 0, cells := 0, slots := 0, locals := 0 } : Room).cells ({ frames := 0, cells := 0, slots := 0, locals := 0 } : Room).slots) := by
  refine MetFree.of_bodySF (plainFor_of_name pn_19) hisR ?_
  intro p e s m args below meth c s₁ Bd hml0 hP hK
  obtain ⟨rfl, hZ, hh⟩ := hP
  have hx := Bd.exec
  have hby := Bd.bytes
  have hlk := Bd.notSynchronized
  have hml : c.maxLocals = 1 := hml0
  have hown : s.vm.findClass "java/lang/StringUTF16" = some m.cls := findClass_of_methodNamed Bd.named
  have hnm := (name_of_methodNamed Bd.named Bd.method).1
  have X0 : Stand p l e ({ frames := 0, cells := 0, slots := 0, locals := 0 } : Room) s m #[(.int p1)] below meth c s₁ [] 0 0 := Stand.of_body Bd
  have e0 : s₁.heap = h0 := by rw [← hh, Bd.state]; rfl
  have N0 := Fr.nil n0
  have K0 : Keep h0 h0 [] := Keep.refl h0 _
  show Goes p e below s ({ frames := 0, cells := 0, slots := 0, locals := 0 } : Room).cells ({ frames := 0, cells := 0, slots := 0, locals := 0 } : Room).slots (Q19 Z p1 n h0 n0) s₁ (entryFrame m #[(.int p1)] 1)
  refine Goes.step (fun t k => castTop (ef_19 m p1) k) ?_
  refine Goes.step (fun _ k => XS.iloadN X0.here hx rfl (hb hby d19_0) rfl k) ?_
  refine Goes.step (fun _ k => XS.ifYes X0.here hx rfl (pc0 := 1) (pc' := 12) rfl (hb hby d19_1) rfl ((if0 _ _).trans (flt (own_jx0 hi (by omega))).2.1) (by decide) (by decide) k) ?_
  show Goes p e below s _ _ _ s₁ (mkF m 12 #[.val (.int p1)] [])
  refine Goes.step (fun _ k => XS.iloadN X0.here hx rfl (hb hby d19_12) rfl k) ?_
  refine Goes.step (fun _ k => X0.ldcInt hx hown (mvT hZ (hw _ (List.mem_of_getElem? (i := 84) rfl))) (g := (mkF m 13 #[.val (.int p1)] [(.int p1)])) rfl (hb hby d19_13) _ k) ?_
  show Goes p e below s _ _ _ s₁ (mkF m 15 #[.val (.int p1)] [(.int (1073741823 : Int32)), (.int p1)])
  refine Goes.step (fun _ k => XS.icmpYes X0.here hx rfl (pc0 := 15) (pc' := 55) rfl (hb hby d19_15) rfl (tlt (own_big hi hn4)).1 (by decide) (by decide) k) ?_
  show Goes p e below s _ _ _ s₁ (mkF m 55 #[.val (.int p1)] [])
  refine Goes.step (fun _ k => XS.iloadN X0.here hx rfl (hb hby d19_55) rfl k) ?_
  refine Goes.step (fun _ k => XS.iconst X0.here hx rfl (hb hby d19_56) k) ?_
  show Goes p e below s _ _ _ s₁ (mkF m 57 #[.val (.int p1)] [(.int (1 : Int32)), (.int p1)])
  refine Goes.step (fun _ k => XS.ishl X0.here hx rfl (hb hby d19_57) rfl k) ?_
  show Goes p e below s _ _ _ s₁ (mkF m 58 #[.val (.int p1)] [(.int (p1 <<< ((1 : Int32) &&& 31)))])
  exact Goes.outI X0 hx hlk Bd.returns (hb hby d19_58) (by rw [e0]; exact ⟨by rw [own_twoP hi (by omega)], rfl, rfl⟩) (by decide) (by decide)
theorem d18_0 : decode jdk_52_method_2_code 0 = .ok (.iload_n 0, 1) := by decide +kernel
theorem d18_1 : decode jdk_52_method_2_code 1 = .ok (.invokestatic 11, 3) := by decide +kernel
theorem d18_4 : decode jdk_52_method_2_code 4 = .ok (.newarray .byte, 2) := by decide +kernel
theorem d18_6 : decode jdk_52_method_2_code 6 = .ok (.areturn, 1) := by decide +kernel
theorem pn_18 : plainName "java/lang/StringUTF16" = true := by first | (simp [plainName, overriddenIn]; done) | decide +kernel
theorem pd_18_0 : parseMethodDescriptor "(I)I" = some ⟨[.int], some .int⟩ := by decide +kernel
theorem ef_18 (m : MethodId) (p1 : Int32) : entryFrame m #[(.int p1)] 1 = mkF m 0 #[.val (.int p1)] [] := by first | (simp [entryFrame, mkF, argsToLocals, Value.category]; done) | rfl
def Q18 (Z : State) (p1 : Int32) (n : Nat) (h0 : Heap) (n0 : Nat) (v : Option Value) (h : Heap) (L : List Loc) : Prop := ∃ o, v = some (.ref o) ∧ Fr n0 L ∧ Keep h0 h [] ∧ h0.size ≤ o ∧ Ari Z h o .byte (2 * n) (fun _ => 0)
set_option maxRecDepth 65536 in
set_option maxHeartbeats 40000000 in
theorem rm18 (l : Launch) (Z : State) (a0 : Array Value) (hw : ∀ d ∈ tables_1, d.before a0 Z = true) (ws : List Jvm.Cond) (p1 : Int32) (n : Nat) (h0 : Heap) (n0 : Nat) (Z0 : n0 ≤ h0.size) (hi : p1 = Int32.ofNat n) (hn4 : n ≤ 4) :
    MetFree l (⟨"java/lang/StringUTF16", "newBytesFor", "(I)[B"⟩ : MethodName) (head1 (Jvm.Cond.code (⟨"java/lang/StringUTF16", "newBytesFor", "(I)[B"⟩ : MethodName) jdk_52_method_2_code 1 (some (.array .byte)) :: ws) ({ frames := 1, cells := 1, slots := 8, locals := 12 } : Room)) (fun a U => a = #[(.int p1)] ∧ Z.Warmed39 U.vm ∧ U.heap = h0) (fun _ _ _ _ _ => True) (fun _ U o U' => ∃ v L, o = .returned v ∧ Q18 Z p1 n h0 n0 v U'.heap L ∧ FrameEnd U o U' L ({ frames := 1, cells := 1, slots := 8, locals := 12 } : Room).cells ({ frames := 1, cells := 1, slots := 8, locals := 12 } : Room).slots) := by
  refine MetFree.of_bodySF (plainFor_of_name pn_18) hisR ?_
  intro p e s m args below meth c s₁ Bd hml0 hP hK
  obtain ⟨rfl, hZ, hh⟩ := hP
  have hx := Bd.exec
  have hby := Bd.bytes
  have hlk := Bd.notSynchronized
  have hml : c.maxLocals = 1 := hml0
  have hown : s.vm.findClass "java/lang/StringUTF16" = some m.cls := findClass_of_methodNamed Bd.named
  have hnm := (name_of_methodNamed Bd.named Bd.method).1
  have X0 : Stand p l e ({ frames := 1, cells := 1, slots := 8, locals := 12 } : Room) s m #[(.int p1)] below meth c s₁ [] 0 0 := Stand.of_body Bd
  have e0 : s₁.heap = h0 := by rw [← hh, Bd.state]; rfl
  have N0 := Fr.nil n0
  have K0 : Keep h0 h0 [] := Keep.refl h0 _
  show Goes p e below s ({ frames := 1, cells := 1, slots := 8, locals := 12 } : Room).cells ({ frames := 1, cells := 1, slots := 8, locals := 12 } : Room).slots (Q18 Z p1 n h0 n0) s₁ (entryFrame m #[(.int p1)] 1)
  refine Goes.step (fun t k => castTop (ef_18 m p1) k) ?_
  refine Goes.step (fun _ k => XS.iloadN X0.here hx rfl (hb hby d18_0) rfl k) ?_
  obtain ⟨T1, X1, e1, st1⟩ := own_pure (r := some (.int (Int32.ofNat (2 * n)))) (fun _ _ _ q => q) (callX X0 hx hZ (y := (⟨"java/lang/StringUTF16", "newBytesLength", "(I)I"⟩ : MethodName)) hown (hw _ (List.mem_of_getElem? (i := 81) rfl)) (hw _ (List.mem_of_getElem? (i := 82) rfl)) (hw _ (List.mem_of_getElem? (i := 19) rfl)) (hw _ (List.mem_of_getElem? (i := 83) rfl)) (by decide) (W := 0) (argsL := [(.int p1)]) (rest := []) (rm19 l Z a0 hw [] p1 n h0 n0 Z0 hi hn4) (by decide) (by decide) (by decide) (by decide) e0 (g := (mkF m 1 #[.val (.int p1)] [(.int p1)])) rfl (by rw [hml]; rfl) (lenOf pd_18_0 rfl) rfl (by show 2 * 0 + _ ≤ _; exact Nat.le_of_eq rfl) (hb hby d18_1))
  refine Goes.step st1 ?_
  show Goes p e below s _ _ _ T1 (mkF m 4 #[.val (.int p1)] [(.int (Int32.ofNat (2 * n)))])
  obtain ⟨T2, h2, X2, e2, E2, A2, st2⟩ := newI X1 hx hZ (hw _ (List.mem_of_getElem? (i := 21) rfl)) e1 (g := (mkF m 4 #[.val (.int p1)] [(.int (Int32.ofNat (2 * n)))])) rfl (hb hby d18_4) rfl (N := 2 * n) rfl (cap := 8) (by omega) (by decide) (by decide) (by decide) rfl (by decide)
  obtain ⟨b2, g_2⟩ : ∃ z, z = h0.size := ⟨_, rfl⟩
  rw [← g_2] at A2 st2
  refine Goes.step st2 ?_
  have ge_b2 : n0 ≤ b2 := by rw [g_2]; exact Z0
  have sz_b2 : h0.size ≤ b2 := by rw [g_2]; exact K0.1
  have z_2 : n0 ≤ h2.size := Nat.le_trans Z0 E2.1
  have K_2 : Keep h0 h2 [] := K0.ext E2
  have A_b2_2 : Ari Z h2 b2 .byte (2 * n) (fun _ => 0) := A2
  show Goes p e below s _ _ _ T2 (mkF m 6 #[.val (.int p1)] [(.ref b2)])
  exact Goes.outR X2 hx hlk Bd.returns rfl rfl (hb hby d18_6) (by rw [e2]; exact ⟨b2, rfl, N0, K_2, sz_b2, A_b2_2⟩) (by decide) (by decide)
theorem own_tb1 (f : Nat → Int32) (j : Nat) (hj : j < 2 * 1) : (updI (updI (fun _ => 0) (2 * 0) (own_bb ((f (0)) >>> ((0 : Int32) &&& 31)))) (2 * 0 + 1) (own_bb ((f (0)) >>> ((8 : Int32) &&& 31)))) j = own_u f j := by
  obtain rfl | rfl : j = 0 ∨ j = 1 := by omega
  all_goals simp [updI, own_u]
theorem d17_0 : decode jdk_52_method_14_code 0 = .ok (.iload_n 2, 1) := by decide +kernel
theorem d17_1 : decode jdk_52_method_14_code 1 = .ok (.invokestatic 107, 3) := by decide +kernel
theorem d17_4 : decode jdk_52_method_14_code 4 = .ok (.astore_n 3, 1) := by decide +kernel
theorem d17_5 : decode jdk_52_method_14_code 5 = .ok (.iconst 0, 1) := by decide +kernel
theorem d17_6 : decode jdk_52_method_14_code 6 = .ok (.istore 4, 2) := by decide +kernel
theorem d17_8 : decode jdk_52_method_14_code 8 = .ok (.iload 4, 2) := by decide +kernel
theorem d17_10 : decode jdk_52_method_14_code 10 = .ok (.iload_n 2, 1) := by decide +kernel
theorem d17_11 : decode jdk_52_method_14_code 11 = .ok (.if_icmp .ge 21, 3) := by decide +kernel
theorem d17_14 : decode jdk_52_method_14_code 14 = .ok (.aload_n 3, 1) := by decide +kernel
theorem d17_15 : decode jdk_52_method_14_code 15 = .ok (.iload 4, 2) := by decide +kernel
theorem d17_17 : decode jdk_52_method_14_code 17 = .ok (.aload_n 0, 1) := by decide +kernel
theorem d17_18 : decode jdk_52_method_14_code 18 = .ok (.iload_n 1, 1) := by decide +kernel
theorem d17_19 : decode jdk_52_method_14_code 19 = .ok (.caload, 1) := by decide +kernel
theorem d17_20 : decode jdk_52_method_14_code 20 = .ok (.invokestatic 111, 3) := by decide +kernel
theorem d17_23 : decode jdk_52_method_14_code 23 = .ok (.iinc 1 1, 3) := by decide +kernel
theorem d17_26 : decode jdk_52_method_14_code 26 = .ok (.iinc 4 1, 3) := by decide +kernel
theorem d17_29 : decode jdk_52_method_14_code 29 = .ok (.goto (-21), 3) := by decide +kernel
theorem d17_32 : decode jdk_52_method_14_code 32 = .ok (.aload_n 3, 1) := by decide +kernel
theorem d17_33 : decode jdk_52_method_14_code 33 = .ok (.areturn, 1) := by decide +kernel
theorem pn_17 : plainName "java/lang/StringUTF16" = true := by first | (simp [plainName, overriddenIn]; done) | decide +kernel
theorem pd_17n1_0 : parseMethodDescriptor "(I)[B" = some ⟨[.int], some (.array .byte)⟩ := by decide +kernel
theorem pd_17n1_1 : parseMethodDescriptor "([BII)V" = some ⟨[(.array .byte), .int, .int], none⟩ := by decide +kernel
theorem ef_17n1 (m : MethodId) (a1 : Addr) : entryFrame m #[(.ref a1), (.int (0 : Int32)), (.int (Int32.ofNat 1))] 5 = mkF m 0 #[.val (.ref a1), .val (.int (0 : Int32)), .val (.int (Int32.ofNat 1)), .unset, .unset] [] := by first | (simp [entryFrame, mkF, argsToLocals, Value.category]; done) | rfl
def Q17n1 (Z : State) (a1 : Addr) (f : Nat → Int32) (h0 : Heap) (n0 : Nat) (v : Option Value) (h : Heap) (L : List Loc) : Prop := ∃ o, v = some (.ref o) ∧ Fr n0 L ∧ Keep h0 h [] ∧ h0.size ≤ o ∧ Ari Z h o .byte (2 * 1) (own_u f)
set_option maxRecDepth 65536 in
set_option maxHeartbeats 40000000 in
theorem rm17n1 (l : Launch) (Z : State) (a0 : Array Value) (hw : ∀ d ∈ tables_1, d.before a0 Z = true) (ws : List Jvm.Cond) (a1 : Addr) (f : Nat → Int32) (h0 : Heap) (n0 : Nat) (Z0 : n0 ≤ h0.size) (OL : Old Z n0 h0) (O5 : Sta Z Z.heap "java/lang/StringUTF16" "$assertionsDisabled" "Z" (.int (1 : Int32))) (O6 : Sta Z Z.heap "java/lang/StringUTF16" "HI_BYTE_SHIFT" "I" (.int (0 : Int32))) (O7 : Sta Z Z.heap "java/lang/StringUTF16" "LO_BYTE_SHIFT" "I" (.int (8 : Int32))) (A_a1_0 : Ari Z h0 a1 .char 1 f) :
    MetFree l (⟨"java/lang/StringUTF16", "toBytes", "([CII)[B"⟩ : MethodName) (head1 (Jvm.Cond.code (⟨"java/lang/StringUTF16", "toBytes", "([CII)[B"⟩ : MethodName) jdk_52_method_14_code 5 (some (.array .byte)) :: ws) ({ frames := 2, cells := 1, slots := 8, locals := 24 } : Room)) (fun a U => a = #[(.ref a1), (.int (0 : Int32)), (.int (Int32.ofNat 1))] ∧ Z.Warmed39 U.vm ∧ U.heap = h0) (fun _ _ _ _ _ => True) (fun _ U o U' => ∃ v L, o = .returned v ∧ Q17n1 Z a1 f h0 n0 v U'.heap L ∧ FrameEnd U o U' L ({ frames := 2, cells := 1, slots := 8, locals := 24 } : Room).cells ({ frames := 2, cells := 1, slots := 8, locals := 24 } : Room).slots) := by
  refine MetFree.of_bodySF (plainFor_of_name pn_17) hisR ?_
  intro p e s m args below meth c s₁ Bd hml0 hP hK
  obtain ⟨rfl, hZ, hh⟩ := hP
  have hx := Bd.exec
  have hby := Bd.bytes
  have hlk := Bd.notSynchronized
  have hml : c.maxLocals = 5 := hml0
  have hown : s.vm.findClass "java/lang/StringUTF16" = some m.cls := findClass_of_methodNamed Bd.named
  have hnm := (name_of_methodNamed Bd.named Bd.method).1
  have X0 : Stand p l e ({ frames := 2, cells := 1, slots := 8, locals := 24 } : Room) s m #[(.ref a1), (.int (0 : Int32)), (.int (Int32.ofNat 1))] below meth c s₁ [] 0 0 := Stand.of_body Bd
  have e0 : s₁.heap = h0 := by rw [← hh, Bd.state]; rfl
  have N0 := Fr.nil n0
  have K0 : Keep h0 h0 [] := Keep.refl h0 _
  show Goes p e below s ({ frames := 2, cells := 1, slots := 8, locals := 24 } : Room).cells ({ frames := 2, cells := 1, slots := 8, locals := 24 } : Room).slots (Q17n1 Z a1 f h0 n0) s₁ (entryFrame m #[(.ref a1), (.int (0 : Int32)), (.int (Int32.ofNat 1))] 5)
  refine Goes.step (fun t k => castTop (ef_17n1 m a1) k) ?_
  refine Goes.step (fun _ k => XS.iloadN X0.here hx rfl (hb hby d17_0) rfl k) ?_
  obtain ⟨v1, T1, h1, L1, X1, e1, Q1, st1⟩ := callX X0 hx hZ (y := (⟨"java/lang/StringUTF16", "newBytesFor", "(I)[B"⟩ : MethodName)) hown (hw _ (List.mem_of_getElem? (i := 78) rfl)) (hw _ (List.mem_of_getElem? (i := 79) rfl)) (hw _ (List.mem_of_getElem? (i := 19) rfl)) (hw _ (List.mem_of_getElem? (i := 80) rfl)) (by decide) (W := 0) (argsL := [(.int (Int32.ofNat 1))]) (rest := []) (rm18 l Z a0 hw [] (Int32.ofNat 1) 1 h0 n0 Z0 rfl (by decide)) (by decide) (by decide) (by decide) (by decide) e0 (g := (mkF m 1 #[.val (.ref a1), .val (.int (0 : Int32)), .val (.int (Int32.ofNat 1)), .unset, .unset] [(.int (Int32.ofNat 1))])) rfl (by rw [hml]; rfl) (lenOf pd_17n1_0 rfl) rfl (by show 2 * 0 + _ ≤ _; exact Nat.le_of_eq rfl) (hb hby d17_1)
  obtain ⟨o1, rfl, NQ1, KQ1, so1, hA1⟩ := Q1
  refine Goes.step st1 ?_
  have A_a1_1 := A_a1_0.keep KQ1 nin0
  have z_1 : n0 ≤ h1.size := Nat.le_trans Z0 KQ1.1
  have K_1 : Keep h0 h1 [] := Keep.trans K0 KQ1 all0
  have N_1 := Fr.app N0 NQ1
  have ne_o1_a1 : o1 ≠ a1 := Nat.ne_of_gt (Nat.lt_of_lt_of_le A_a1_0.lt so1)
  have ge_o1 : n0 ≤ o1 := Nat.le_trans Z0 so1
  have sz_o1 : h0.size ≤ o1 := Nat.le_trans K0.1 so1
  show Goes p e below s _ _ _ T1 (mkF m 4 #[.val (.ref a1), .val (.int (0 : Int32)), .val (.int (Int32.ofNat 1)), .unset, .unset] [(.ref o1)])
  refine Goes.step (fun _ k => XS.astoreN X1.here hx rfl (hb hby d17_4) rfl rfl (l' := #[.val (.ref a1), .val (.int (0 : Int32)), .val (.int (Int32.ofNat 1)), .val (.ref o1), .unset]) rfl k) ?_
  refine Goes.step (fun _ k => XS.iconst X1.here hx rfl (hb hby d17_5) k) ?_
  show Goes p e below s _ _ _ T1 (mkF m 6 #[.val (.ref a1), .val (.int (0 : Int32)), .val (.int (Int32.ofNat 1)), .val (.ref o1), .unset] [(.int (0 : Int32))])
  refine Goes.step (fun _ k => XS.istore X1.here hx rfl (hb hby d17_6) rfl (l' := #[.val (.ref a1), .val (.int (0 : Int32)), .val (.int (Int32.ofNat 1)), .val (.ref o1), .val (.int (0 : Int32))]) rfl k) ?_
  refine Goes.step (fun _ k => XS.iload X1.here hx rfl (hb hby d17_8) rfl k) ?_
  show Goes p e below s _ _ _ T1 (mkF m 10 #[.val (.ref a1), .val (.int (0 : Int32)), .val (.int (Int32.ofNat 1)), .val (.ref o1), .val (.int (0 : Int32))] [(.int (0 : Int32))])
  refine Goes.step (fun _ k => XS.iloadN X1.here hx rfl (hb hby d17_10) rfl k) ?_
  refine Goes.step (fun _ k => XS.icmpNo X1.here hx rfl (hb hby d17_11) rfl (tlt (by decide : (0 : Int32) < (Int32.ofNat 1))).2.1 k) ?_
  show Goes p e below s _ _ _ T1 (mkF m 14 #[.val (.ref a1), .val (.int (0 : Int32)), .val (.int (Int32.ofNat 1)), .val (.ref o1), .val (.int (0 : Int32))] [])
  refine Goes.step (fun _ k => XS.aloadN X1.here hx rfl (hb hby d17_14) rfl rfl k) ?_
  refine Goes.step (fun _ k => XS.iload X1.here hx rfl (hb hby d17_15) rfl k) ?_
  show Goes p e below s _ _ _ T1 (mkF m 17 #[.val (.ref a1), .val (.int (0 : Int32)), .val (.int (Int32.ofNat 1)), .val (.ref o1), .val (.int (0 : Int32))] [(.int (0 : Int32)), (.ref o1)])
  refine Goes.step (fun _ k => XS.aloadN X1.here hx rfl (hb hby d17_17) rfl rfl k) ?_
  refine Goes.step (fun _ k => XS.iloadN X1.here hx rfl (hb hby d17_18) rfl k) ?_
  show Goes p e below s _ _ _ T1 (mkF m 19 #[.val (.ref a1), .val (.int (0 : Int32)), .val (.int (Int32.ofNat 1)), .val (.ref o1), .val (.int (0 : Int32))] [(.int (0 : Int32)), (.ref a1), (.int (0 : Int32)), (.ref o1)])
  refine Goes.step (fun _ k => rdC X1 hx hZ e1 A_a1_1 (0) rfl (by decide) (g := (mkF m 19 #[.val (.ref a1), .val (.int (0 : Int32)), .val (.int (Int32.ofNat 1)), .val (.ref o1), .val (.int (0 : Int32))] [(.int (0 : Int32)), (.ref a1), (.int (0 : Int32)), (.ref o1)])) rfl rfl (hb hby d17_19) _ k) ?_
  show Goes p e below s _ _ _ T1 (mkF m 20 #[.val (.ref a1), .val (.int (0 : Int32)), .val (.int (Int32.ofNat 1)), .val (.ref o1), .val (.int (0 : Int32))] [(.int (f (0))), (.int (0 : Int32)), (.ref o1)])
  obtain ⟨v2, T2, h2, L2, X2, e2, Q2, st2⟩ := callX X1 hx hZ (y := (⟨"java/lang/StringUTF16", "putChar", "([BII)V"⟩ : MethodName)) hown (hw _ (List.mem_of_getElem? (i := 85) rfl)) (hw _ (List.mem_of_getElem? (i := 86) rfl)) (hw _ (List.mem_of_getElem? (i := 19) rfl)) (hw _ (List.mem_of_getElem? (i := 87) rfl)) (by decide) (W := 0) (argsL := [(.ref o1), (.int (0 : Int32)), (.int (f (0)))]) (rest := []) (rm20 l Z a0 hw [] o1 (0 : Int32) (f (0)) 0 1 (fun _ => 0) h1 n0 z_1 (OL.keep K_1 all0) O5 O6 O7 hA1 rfl (by decide) (by decide) ge_o1) (by decide) (by decide) (by decide) (by decide) e1 (g := (mkF m 20 #[.val (.ref a1), .val (.int (0 : Int32)), .val (.int (Int32.ofNat 1)), .val (.ref o1), .val (.int (0 : Int32))] [(.int (f (0))), (.int (0 : Int32)), (.ref o1)])) rfl (by rw [hml]; rfl) (lenOf pd_17n1_1 rfl) rfl (by show 2 * 0 + _ ≤ _; exact Nat.le_of_eq rfl) (hb hby d17_20)
  obtain ⟨rfl, NQ2, KQ2, hA2⟩ := Q2
  refine Goes.step st2 ?_
  have A_a1_2 := A_a1_1.keep KQ2 (ninS (Ne.symm ne_o1_a1) nin0)
  have z_2 : n0 ≤ h2.size := Nat.le_trans z_1 KQ2.1
  have K_2 : Keep h0 h2 [] := Keep.trans K_1 KQ2 (allS (Or.inr sz_o1) all0)
  have N_2 := Fr.app N_1 NQ2
  show Goes p e below s _ _ _ T2 (mkF m 23 #[.val (.ref a1), .val (.int (0 : Int32)), .val (.int (Int32.ofNat 1)), .val (.ref o1), .val (.int (0 : Int32))] [])
  refine Goes.step (fun _ k => XS.iinc X2.here hx rfl (hb hby d17_23) rfl (l' := #[.val (.ref a1), .val (.int (1 : Int32)), .val (.int (Int32.ofNat 1)), .val (.ref o1), .val (.int (0 : Int32))]) rfl k) ?_
  show Goes p e below s _ _ _ T2 (mkF m 26 #[.val (.ref a1), .val (.int (1 : Int32)), .val (.int (Int32.ofNat 1)), .val (.ref o1), .val (.int (0 : Int32))] [])
  refine Goes.step (fun _ k => XS.iinc X2.here hx rfl (hb hby d17_26) rfl (l' := #[.val (.ref a1), .val (.int (1 : Int32)), .val (.int (Int32.ofNat 1)), .val (.ref o1), .val (.int (1 : Int32))]) rfl k) ?_
  show Goes p e below s _ _ _ T2 (mkF m 29 #[.val (.ref a1), .val (.int (1 : Int32)), .val (.int (Int32.ofNat 1)), .val (.ref o1), .val (.int (1 : Int32))] [])
  refine Goes.step (fun _ k => XS.goto X2.here hx rfl (pc0 := 29) (pc' := 8) rfl (hb hby d17_29) (by decide) (by decide) k) ?_
  refine Goes.step (fun _ k => XS.iload X2.here hx rfl (hb hby d17_8) rfl k) ?_
  show Goes p e below s _ _ _ T2 (mkF m 10 #[.val (.ref a1), .val (.int (1 : Int32)), .val (.int (Int32.ofNat 1)), .val (.ref o1), .val (.int (1 : Int32))] [(.int (1 : Int32))])
  refine Goes.step (fun _ k => XS.iloadN X2.here hx rfl (hb hby d17_10) rfl k) ?_
  refine Goes.step (fun _ k => XS.icmpYes X2.here hx rfl (pc0 := 11) (pc' := 32) rfl (hb hby d17_11) rfl (flt (by decide : ¬ ((1 : Int32) < (Int32.ofNat 1)))).2.1 (by decide) (by decide) k) ?_
  show Goes p e below s _ _ _ T2 (mkF m 32 #[.val (.ref a1), .val (.int (1 : Int32)), .val (.int (Int32.ofNat 1)), .val (.ref o1), .val (.int (1 : Int32))] [])
  refine Goes.step (fun _ k => XS.aloadN X2.here hx rfl (hb hby d17_32) rfl rfl k) ?_
  show Goes p e below s _ _ _ T2 (mkF m 33 #[.val (.ref a1), .val (.int (1 : Int32)), .val (.int (Int32.ofNat 1)), .val (.ref o1), .val (.int (1 : Int32))] [(.ref o1)])
  exact Goes.outR X2 hx hlk Bd.returns rfl rfl (hb hby d17_33) (by rw [e2]; exact ⟨o1, rfl, N_2, K_2, sz_o1, hA2.cast (own_tb1 f)⟩) (by decide) (by decide)
theorem own_cp1 (f g : Nat → Int32) (j : Nat) (hj : j < 1) : (updI g (0) (((f (0)).toInt8.toInt32).toInt8.toInt32)) j = own_bb (f j) := by
  obtain rfl : j = 0 := by omega
  all_goals simp [updI, own_bb]
theorem d5_0 : decode jdk_52_method_21_code 0 = .ok (.iconst 0, 1) := by decide +kernel
theorem d5_1 : decode jdk_52_method_21_code 1 = .ok (.istore 5, 2) := by decide +kernel
theorem d5_3 : decode jdk_52_method_21_code 3 = .ok (.iload 5, 2) := by decide +kernel
theorem d5_5 : decode jdk_52_method_21_code 5 = .ok (.iload 4, 2) := by decide +kernel
theorem d5_7 : decode jdk_52_method_21_code 7 = .ok (.if_icmp .ge 37, 3) := by decide +kernel
theorem d5_10 : decode jdk_52_method_21_code 10 = .ok (.aload_n 0, 1) := by decide +kernel
theorem d5_11 : decode jdk_52_method_21_code 11 = .ok (.iload_n 1, 1) := by decide +kernel
theorem d5_12 : decode jdk_52_method_21_code 12 = .ok (.caload, 1) := by decide +kernel
theorem d5_13 : decode jdk_52_method_21_code 13 = .ok (.istore 6, 2) := by decide +kernel
theorem d5_15 : decode jdk_52_method_21_code 15 = .ok (.iload 6, 2) := by decide +kernel
theorem d5_17 : decode jdk_52_method_21_code 17 = .ok (.sipush 255, 3) := by decide +kernel
theorem d5_20 : decode jdk_52_method_21_code 20 = .ok (.if_icmp .le 6, 3) := by decide +kernel
theorem d5_23 : decode jdk_52_method_21_code 23 = .ok (.iload 5, 2) := by decide +kernel
theorem d5_25 : decode jdk_52_method_21_code 25 = .ok (.ireturn, 1) := by decide +kernel
theorem d5_26 : decode jdk_52_method_21_code 26 = .ok (.aload_n 2, 1) := by decide +kernel
theorem d5_27 : decode jdk_52_method_21_code 27 = .ok (.iload_n 3, 1) := by decide +kernel
theorem d5_28 : decode jdk_52_method_21_code 28 = .ok (.iload 6, 2) := by decide +kernel
theorem d5_30 : decode jdk_52_method_21_code 30 = .ok (.i2b, 1) := by decide +kernel
theorem d5_31 : decode jdk_52_method_21_code 31 = .ok (.bastore, 1) := by decide +kernel
theorem d5_32 : decode jdk_52_method_21_code 32 = .ok (.iinc 1 1, 3) := by decide +kernel
theorem d5_35 : decode jdk_52_method_21_code 35 = .ok (.iinc 3 1, 3) := by decide +kernel
theorem d5_38 : decode jdk_52_method_21_code 38 = .ok (.iinc 5 1, 3) := by decide +kernel
theorem d5_41 : decode jdk_52_method_21_code 41 = .ok (.goto (-38), 3) := by decide +kernel
theorem d5_44 : decode jdk_52_method_21_code 44 = .ok (.iload 4, 2) := by decide +kernel
theorem d5_46 : decode jdk_52_method_21_code 46 = .ok (.ireturn, 1) := by decide +kernel
theorem pn_5 : plainName "java/lang/StringUTF16" = true := by first | (simp [plainName, overriddenIn]; done) | decide +kernel
theorem ef_5n1 (m : MethodId) (a1 : Addr) (a3 : Addr) : entryFrame m #[(.ref a1), (.int (0 : Int32)), (.ref a3), (.int (0 : Int32)), (.int (Int32.ofNat 1))] 7 = mkF m 0 #[.val (.ref a1), .val (.int (0 : Int32)), .val (.ref a3), .val (.int (0 : Int32)), .val (.int (Int32.ofNat 1)), .unset, .unset] [] := by first | (simp [entryFrame, mkF, argsToLocals, Value.category]; done) | rfl
def Q5n1 (Z : State) (a1 : Addr) (a3 : Addr) (f : Nat → Int32) (g : Nat → Int32) (h0 : Heap) (n0 : Nat) (v : Option Value) (h : Heap) (L : List Loc) : Prop := ∃ r : Nat, v = some (.int (Int32.ofNat r)) ∧ Fr n0 L ∧ Keep h0 h [a3] ∧ ((r = 1 ∧ (∀ j, j < 1 → ¬ ((255 : Int32) < f j)) ∧ Ari Z h a3 .byte 1 (fun j => own_bb (f j))) ∨ (r < 1 ∧ (255 : Int32) < f r))
set_option maxRecDepth 65536 in
set_option maxHeartbeats 40000000 in
theorem rm5n1 (l : Launch) (Z : State) (a0 : Array Value) (hw : ∀ d ∈ tables_1, d.before a0 Z = true) (ws : List Jvm.Cond) (a1 : Addr) (a3 : Addr) (f : Nat → Int32) (g : Nat → Int32) (h0 : Heap) (n0 : Nat) (Z0 : n0 ≤ h0.size) (A_a1_0 : Ari Z h0 a1 .char 1 f) (A_a3_0 : Ari Z h0 a3 .byte 1 g) (ne_a1_a3 : a1 ≠ a3) (ge_a3 : n0 ≤ a3) :
    MetFree l (⟨"java/lang/StringUTF16", "compress", "([CI[BII)I"⟩ : MethodName) (head1 (Jvm.Cond.code (⟨"java/lang/StringUTF16", "compress", "([CI[BII)I"⟩ : MethodName) jdk_52_method_21_code 7 (some .int) :: ws) ({ frames := 0, cells := 0, slots := 0, locals := 0 } : Room)) (fun a U => a = #[(.ref a1), (.int (0 : Int32)), (.ref a3), (.int (0 : Int32)), (.int (Int32.ofNat 1))] ∧ Z.Warmed39 U.vm ∧ U.heap = h0) (fun _ _ _ _ _ => True) (fun _ U o U' => ∃ v L, o = .returned v ∧ Q5n1 Z a1 a3 f g h0 n0 v U'.heap L ∧ FrameEnd U o U' L ({ frames := 0, cells := 0, slots := 0, locals := 0 } : Room).cells ({ frames := 0, cells := 0, slots := 0, locals := 0 } : Room).slots) := by
  refine MetFree.of_bodySF (plainFor_of_name pn_5) hisR ?_
  intro p e s m args below meth c s₁ Bd hml0 hP hK
  obtain ⟨rfl, hZ, hh⟩ := hP
  have hx := Bd.exec
  have hby := Bd.bytes
  have hlk := Bd.notSynchronized
  have hml : c.maxLocals = 7 := hml0
  have hown : s.vm.findClass "java/lang/StringUTF16" = some m.cls := findClass_of_methodNamed Bd.named
  have hnm := (name_of_methodNamed Bd.named Bd.method).1
  have X0 : Stand p l e ({ frames := 0, cells := 0, slots := 0, locals := 0 } : Room) s m #[(.ref a1), (.int (0 : Int32)), (.ref a3), (.int (0 : Int32)), (.int (Int32.ofNat 1))] below meth c s₁ [] 0 0 := Stand.of_body Bd
  have e0 : s₁.heap = h0 := by rw [← hh, Bd.state]; rfl
  have N0 := Fr.nil n0
  have K0 : Keep h0 h0 [a3] := Keep.refl h0 _
  show Goes p e below s ({ frames := 0, cells := 0, slots := 0, locals := 0 } : Room).cells ({ frames := 0, cells := 0, slots := 0, locals := 0 } : Room).slots (Q5n1 Z a1 a3 f g h0 n0) s₁ (entryFrame m #[(.ref a1), (.int (0 : Int32)), (.ref a3), (.int (0 : Int32)), (.int (Int32.ofNat 1))] 7)
  refine Goes.step (fun t k => castTop (ef_5n1 m a1 a3) k) ?_
  refine Goes.step (fun _ k => XS.iconst X0.here hx rfl (hb hby d5_0) k) ?_
  refine Goes.step (fun _ k => XS.istore X0.here hx rfl (hb hby d5_1) rfl (l' := #[.val (.ref a1), .val (.int (0 : Int32)), .val (.ref a3), .val (.int (0 : Int32)), .val (.int (Int32.ofNat 1)), .val (.int (0 : Int32)), .unset]) rfl k) ?_
  show Goes p e below s _ _ _ s₁ (mkF m 3 #[.val (.ref a1), .val (.int (0 : Int32)), .val (.ref a3), .val (.int (0 : Int32)), .val (.int (Int32.ofNat 1)), .val (.int (0 : Int32)), .unset] [])
  refine Goes.step (fun _ k => XS.iload X0.here hx rfl (hb hby d5_3) rfl k) ?_
  refine Goes.step (fun _ k => XS.iload X0.here hx rfl (hb hby d5_5) rfl k) ?_
  show Goes p e below s _ _ _ s₁ (mkF m 7 #[.val (.ref a1), .val (.int (0 : Int32)), .val (.ref a3), .val (.int (0 : Int32)), .val (.int (Int32.ofNat 1)), .val (.int (0 : Int32)), .unset] [(.int (Int32.ofNat 1)), (.int (0 : Int32))])
  refine Goes.step (fun _ k => XS.icmpNo X0.here hx rfl (hb hby d5_7) rfl (tlt (by decide : (0 : Int32) < (Int32.ofNat 1))).2.1 k) ?_
  show Goes p e below s _ _ _ s₁ (mkF m 10 #[.val (.ref a1), .val (.int (0 : Int32)), .val (.ref a3), .val (.int (0 : Int32)), .val (.int (Int32.ofNat 1)), .val (.int (0 : Int32)), .unset] [])
  refine Goes.step (fun _ k => XS.aloadN X0.here hx rfl (hb hby d5_10) rfl rfl k) ?_
  refine Goes.step (fun _ k => XS.iloadN X0.here hx rfl (hb hby d5_11) rfl k) ?_
  show Goes p e below s _ _ _ s₁ (mkF m 12 #[.val (.ref a1), .val (.int (0 : Int32)), .val (.ref a3), .val (.int (0 : Int32)), .val (.int (Int32.ofNat 1)), .val (.int (0 : Int32)), .unset] [(.int (0 : Int32)), (.ref a1)])
  refine Goes.step (fun _ k => rdC X0 hx hZ e0 A_a1_0 (0) rfl (by decide) (g := (mkF m 12 #[.val (.ref a1), .val (.int (0 : Int32)), .val (.ref a3), .val (.int (0 : Int32)), .val (.int (Int32.ofNat 1)), .val (.int (0 : Int32)), .unset] [(.int (0 : Int32)), (.ref a1)])) rfl rfl (hb hby d5_12) _ k) ?_
  show Goes p e below s _ _ _ s₁ (mkF m 13 #[.val (.ref a1), .val (.int (0 : Int32)), .val (.ref a3), .val (.int (0 : Int32)), .val (.int (Int32.ofNat 1)), .val (.int (0 : Int32)), .unset] [(.int (f (0)))])
  refine Goes.step (fun _ k => XS.istore X0.here hx rfl (hb hby d5_13) rfl (l' := #[.val (.ref a1), .val (.int (0 : Int32)), .val (.ref a3), .val (.int (0 : Int32)), .val (.int (Int32.ofNat 1)), .val (.int (0 : Int32)), .val (.int (f (0)))]) rfl k) ?_
  refine Goes.step (fun _ k => XS.iload X0.here hx rfl (hb hby d5_15) rfl k) ?_
  show Goes p e below s _ _ _ s₁ (mkF m 17 #[.val (.ref a1), .val (.int (0 : Int32)), .val (.ref a3), .val (.int (0 : Int32)), .val (.int (Int32.ofNat 1)), .val (.int (0 : Int32)), .val (.int (f (0)))] [(.int (f (0)))])
  refine Goes.step (fun _ k => XS.sipush X0.here hx rfl (hb hby d5_17) k) ?_
  by_cases hc20 : (255 : Int32) < (f (0))
  · refine Goes.step (fun _ k => XS.icmpNo X0.here hx rfl (hb hby d5_20) rfl (tlt hc20).2.2.2 k) ?_
    show Goes p e below s _ _ _ s₁ (mkF m 23 #[.val (.ref a1), .val (.int (0 : Int32)), .val (.ref a3), .val (.int (0 : Int32)), .val (.int (Int32.ofNat 1)), .val (.int (0 : Int32)), .val (.int (f (0)))] [])
    refine Goes.step (fun _ k => XS.iload X0.here hx rfl (hb hby d5_23) rfl k) ?_
    show Goes p e below s _ _ _ s₁ (mkF m 25 #[.val (.ref a1), .val (.int (0 : Int32)), .val (.ref a3), .val (.int (0 : Int32)), .val (.int (Int32.ofNat 1)), .val (.int (0 : Int32)), .val (.int (f (0)))] [(.int (0 : Int32))])
    exact Goes.outI X0 hx hlk Bd.returns (hb hby d5_25) (by rw [e0]; exact ⟨0, rfl, N0, K0, Or.inr ⟨by decide, hc20⟩⟩) (by decide) (by decide)
  · refine Goes.step (fun _ k => XS.icmpYes X0.here hx rfl (pc0 := 20) (pc' := 26) rfl (hb hby d5_20) rfl (flt hc20).2.2.2 (by decide) (by decide) k) ?_
    show Goes p e below s _ _ _ s₁ (mkF m 26 #[.val (.ref a1), .val (.int (0 : Int32)), .val (.ref a3), .val (.int (0 : Int32)), .val (.int (Int32.ofNat 1)), .val (.int (0 : Int32)), .val (.int (f (0)))] [])
    refine Goes.step (fun _ k => XS.aloadN X0.here hx rfl (hb hby d5_26) rfl rfl k) ?_
    show Goes p e below s _ _ _ s₁ (mkF m 27 #[.val (.ref a1), .val (.int (0 : Int32)), .val (.ref a3), .val (.int (0 : Int32)), .val (.int (Int32.ofNat 1)), .val (.int (0 : Int32)), .val (.int (f (0)))] [(.ref a3)])
    refine Goes.step (fun _ k => XS.iloadN X0.here hx rfl (hb hby d5_27) rfl k) ?_
    refine Goes.step (fun _ k => XS.iload X0.here hx rfl (hb hby d5_28) rfl k) ?_
    show Goes p e below s _ _ _ s₁ (mkF m 30 #[.val (.ref a1), .val (.int (0 : Int32)), .val (.ref a3), .val (.int (0 : Int32)), .val (.int (Int32.ofNat 1)), .val (.int (0 : Int32)), .val (.int (f (0)))] [(.int (f (0))), (.int (0 : Int32)), (.ref a3)])
    refine Goes.step (fun _ k => XS.i2b X0.here hx rfl (hb hby d5_30) rfl k) ?_
    show Goes p e below s _ _ _ s₁ (mkF m 31 #[.val (.ref a1), .val (.int (0 : Int32)), .val (.ref a3), .val (.int (0 : Int32)), .val (.int (Int32.ofNat 1)), .val (.int (0 : Int32)), .val (.int (f (0)))] [(.int ((f (0)).toInt8.toInt32)), (.int (0 : Int32)), (.ref a3)])
    obtain ⟨T1, h1, X1, e1, W1, A1, st1⟩ := stoB X0 hx hZ e0 A_a3_0 (0) rfl (by decide) (g := (mkF m 31 #[.val (.ref a1), .val (.int (0 : Int32)), .val (.ref a3), .val (.int (0 : Int32)), .val (.int (Int32.ofNat 1)), .val (.int (0 : Int32)), .val (.int (f (0)))] [(.int ((f (0)).toInt8.toInt32)), (.int (0 : Int32)), (.ref a3)])) rfl rfl (hb hby d5_31)
    refine Goes.step st1 ?_
    have A_a1_1 := A_a1_0.other W1 ne_a1_a3
    have z_1 : n0 ≤ h1.size := by rw [W1.size]; exact Z0
    have K_1 : Keep h0 h1 [a3] := K0.wr W1 (Or.inl (List.mem_of_getElem? (i := 0) rfl))
    have N_1 := Fr.snoc X1 N0 ge_a3
    have A_a3_1 : Ari Z h1 a3 .byte (1) (updI g (0) (((f (0)).toInt8.toInt32).toInt8.toInt32)) := A1
    show Goes p e below s _ _ _ T1 (mkF m 32 #[.val (.ref a1), .val (.int (0 : Int32)), .val (.ref a3), .val (.int (0 : Int32)), .val (.int (Int32.ofNat 1)), .val (.int (0 : Int32)), .val (.int (f (0)))] [])
    refine Goes.step (fun _ k => XS.iinc X1.here hx rfl (hb hby d5_32) rfl (l' := #[.val (.ref a1), .val (.int (1 : Int32)), .val (.ref a3), .val (.int (0 : Int32)), .val (.int (Int32.ofNat 1)), .val (.int (0 : Int32)), .val (.int (f (0)))]) rfl k) ?_
    show Goes p e below s _ _ _ T1 (mkF m 35 #[.val (.ref a1), .val (.int (1 : Int32)), .val (.ref a3), .val (.int (0 : Int32)), .val (.int (Int32.ofNat 1)), .val (.int (0 : Int32)), .val (.int (f (0)))] [])
    refine Goes.step (fun _ k => XS.iinc X1.here hx rfl (hb hby d5_35) rfl (l' := #[.val (.ref a1), .val (.int (1 : Int32)), .val (.ref a3), .val (.int (1 : Int32)), .val (.int (Int32.ofNat 1)), .val (.int (0 : Int32)), .val (.int (f (0)))]) rfl k) ?_
    show Goes p e below s _ _ _ T1 (mkF m 38 #[.val (.ref a1), .val (.int (1 : Int32)), .val (.ref a3), .val (.int (1 : Int32)), .val (.int (Int32.ofNat 1)), .val (.int (0 : Int32)), .val (.int (f (0)))] [])
    refine Goes.step (fun _ k => XS.iinc X1.here hx rfl (hb hby d5_38) rfl (l' := #[.val (.ref a1), .val (.int (1 : Int32)), .val (.ref a3), .val (.int (1 : Int32)), .val (.int (Int32.ofNat 1)), .val (.int (1 : Int32)), .val (.int (f (0)))]) rfl k) ?_
    show Goes p e below s _ _ _ T1 (mkF m 41 #[.val (.ref a1), .val (.int (1 : Int32)), .val (.ref a3), .val (.int (1 : Int32)), .val (.int (Int32.ofNat 1)), .val (.int (1 : Int32)), .val (.int (f (0)))] [])
    refine Goes.step (fun _ k => XS.goto X1.here hx rfl (pc0 := 41) (pc' := 3) rfl (hb hby d5_41) (by decide) (by decide) k) ?_
    refine Goes.step (fun _ k => XS.iload X1.here hx rfl (hb hby d5_3) rfl k) ?_
    show Goes p e below s _ _ _ T1 (mkF m 5 #[.val (.ref a1), .val (.int (1 : Int32)), .val (.ref a3), .val (.int (1 : Int32)), .val (.int (Int32.ofNat 1)), .val (.int (1 : Int32)), .val (.int (f (0)))] [(.int (1 : Int32))])
    refine Goes.step (fun _ k => XS.iload X1.here hx rfl (hb hby d5_5) rfl k) ?_
    refine Goes.step (fun _ k => XS.icmpYes X1.here hx rfl (pc0 := 7) (pc' := 44) rfl (hb hby d5_7) rfl (flt (by decide : ¬ ((1 : Int32) < (Int32.ofNat 1)))).2.1 (by decide) (by decide) k) ?_
    show Goes p e below s _ _ _ T1 (mkF m 44 #[.val (.ref a1), .val (.int (1 : Int32)), .val (.ref a3), .val (.int (1 : Int32)), .val (.int (Int32.ofNat 1)), .val (.int (1 : Int32)), .val (.int (f (0)))] [])
    refine Goes.step (fun _ k => XS.iload X1.here hx rfl (hb hby d5_44) rfl k) ?_
    show Goes p e below s _ _ _ T1 (mkF m 46 #[.val (.ref a1), .val (.int (1 : Int32)), .val (.ref a3), .val (.int (1 : Int32)), .val (.int (Int32.ofNat 1)), .val (.int (1 : Int32)), .val (.int (f (0)))] [(.int (Int32.ofNat 1))])
    have hall : ∀ j, j < 1 → ¬ ((255 : Int32) < f j) := fun j hj => by
      obtain rfl : j = 0 := by omega
      · exact hc20
    exact Goes.outI X1 hx hlk Bd.returns (hb hby d5_46) (by rw [e1]; exact ⟨1, rfl, N_1, K_1, Or.inl ⟨rfl, hall, A_a3_1.cast (own_cp1 f g)⟩⟩) (by decide) (by decide)
theorem d4_0 : decode jdk_52_method_16_code 0 = .ok (.iload_n 2, 1) := by decide +kernel
theorem d4_1 : decode jdk_52_method_16_code 1 = .ok (.newarray .byte, 2) := by decide +kernel
theorem d4_3 : decode jdk_52_method_16_code 3 = .ok (.astore_n 3, 1) := by decide +kernel
theorem d4_4 : decode jdk_52_method_16_code 4 = .ok (.aload_n 0, 1) := by decide +kernel
theorem d4_5 : decode jdk_52_method_16_code 5 = .ok (.iload_n 1, 1) := by decide +kernel
theorem d4_6 : decode jdk_52_method_16_code 6 = .ok (.aload_n 3, 1) := by decide +kernel
theorem d4_7 : decode jdk_52_method_16_code 7 = .ok (.iconst 0, 1) := by decide +kernel
theorem d4_8 : decode jdk_52_method_16_code 8 = .ok (.iload_n 2, 1) := by decide +kernel
theorem d4_9 : decode jdk_52_method_16_code 9 = .ok (.invokestatic 115, 3) := by decide +kernel
theorem d4_12 : decode jdk_52_method_16_code 12 = .ok (.istore 4, 2) := by decide +kernel
theorem d4_14 : decode jdk_52_method_16_code 14 = .ok (.iload 4, 2) := by decide +kernel
theorem d4_16 : decode jdk_52_method_16_code 16 = .ok (.iload_n 2, 1) := by decide +kernel
theorem d4_17 : decode jdk_52_method_16_code 17 = .ok (.if_icmp .eq 40, 3) := by decide +kernel
theorem d4_20 : decode jdk_52_method_16_code 20 = .ok (.aload_n 0, 1) := by decide +kernel
theorem d4_21 : decode jdk_52_method_16_code 21 = .ok (.iload_n 1, 1) := by decide +kernel
theorem d4_22 : decode jdk_52_method_16_code 22 = .ok (.iload_n 2, 1) := by decide +kernel
theorem d4_23 : decode jdk_52_method_16_code 23 = .ok (.invokestatic 119, 3) := by decide +kernel
theorem d4_26 : decode jdk_52_method_16_code 26 = .ok (.astore 5, 2) := by decide +kernel
theorem d4_28 : decode jdk_52_method_16_code 28 = .ok (.aload 5, 2) := by decide +kernel
theorem d4_30 : decode jdk_52_method_16_code 30 = .ok (.iload 4, 2) := by decide +kernel
theorem d4_32 : decode jdk_52_method_16_code 32 = .ok (.invokestatic 71, 3) := by decide +kernel
theorem d4_35 : decode jdk_52_method_16_code 35 = .ok (.sipush 255, 3) := by decide +kernel
theorem d4_38 : decode jdk_52_method_16_code 38 = .ok (.if_icmp .gt 16, 3) := by decide +kernel
theorem d4_54 : decode jdk_52_method_16_code 54 = .ok (.aload 5, 2) := by decide +kernel
theorem d4_56 : decode jdk_52_method_16_code 56 = .ok (.areturn, 1) := by decide +kernel
theorem d4_57 : decode jdk_52_method_16_code 57 = .ok (.aload_n 3, 1) := by decide +kernel
theorem d4_58 : decode jdk_52_method_16_code 58 = .ok (.areturn, 1) := by decide +kernel
theorem pn_4 : plainName "java/lang/StringUTF16" = true := by first | (simp [plainName, overriddenIn]; done) | decide +kernel
theorem pd_4n1_0 : parseMethodDescriptor "([CI[BII)I" = some ⟨[(.array .char), .int, (.array .byte), .int, .int], some .int⟩ := by decide +kernel
theorem pd_4n1_1 : parseMethodDescriptor "([CII)[B" = some ⟨[(.array .char), .int, .int], some (.array .byte)⟩ := by decide +kernel
theorem pd_4n1_2 : parseMethodDescriptor "([BI)C" = some ⟨[(.array .byte), .int], some .char⟩ := by decide +kernel
theorem ef_4n1 (m : MethodId) (a1 : Addr) : entryFrame m #[(.ref a1), (.int (0 : Int32)), (.int (Int32.ofNat 1))] 6 = mkF m 0 #[.val (.ref a1), .val (.int (0 : Int32)), .val (.int (Int32.ofNat 1)), .unset, .unset, .unset] [] := by first | (simp [entryFrame, mkF, argsToLocals, Value.category]; done) | rfl
def Q4n1 (Z : State) (a1 : Addr) (f : Nat → Int32) (h0 : Heap) (n0 : Nat) (v : Option Value) (h : Heap) (L : List Loc) : Prop := ∃ o, v = some (.ref o) ∧ Fr n0 L ∧ Keep h0 h [] ∧ h0.size ≤ o ∧ ((Ari Z h o .byte 1 (fun j => own_bb (f j)) ∧ ∀ j, j < 1 → ¬ ((255 : Int32) < f j)) ∨ Ari Z h o .byte (2 * 1) (own_u f))
set_option maxRecDepth 65536 in
set_option maxHeartbeats 40000000 in
theorem rm4n1 (l : Launch) (Z : State) (a0 : Array Value) (hw : ∀ d ∈ tables_1, d.before a0 Z = true) (ws : List Jvm.Cond) (a1 : Addr) (f : Nat → Int32) (h0 : Heap) (n0 : Nat) (Z0 : n0 ≤ h0.size) (OL : Old Z n0 h0) (O5 : Sta Z Z.heap "java/lang/StringUTF16" "$assertionsDisabled" "Z" (.int (1 : Int32))) (O6 : Sta Z Z.heap "java/lang/StringUTF16" "HI_BYTE_SHIFT" "I" (.int (0 : Int32))) (O7 : Sta Z Z.heap "java/lang/StringUTF16" "LO_BYTE_SHIFT" "I" (.int (8 : Int32))) (A_a1_0 : Ari Z h0 a1 .char 1 f) (rg : own_rg 1 f) :
    MetFree l (⟨"java/lang/StringUTF16", "compress", "([CII)[B"⟩ : MethodName) (head1 (Jvm.Cond.code (⟨"java/lang/StringUTF16", "compress", "([CII)[B"⟩ : MethodName) jdk_52_method_16_code 6 (some (.array .byte)) :: ws) ({ frames := 3, cells := 2, slots := 9, locals := 40 } : Room)) (fun a U => a = #[(.ref a1), (.int (0 : Int32)), (.int (Int32.ofNat 1))] ∧ Z.Warmed39 U.vm ∧ U.heap = h0) (fun _ _ _ _ _ => True) (fun _ U o U' => ∃ v L, o = .returned v ∧ Q4n1 Z a1 f h0 n0 v U'.heap L ∧ FrameEnd U o U' L ({ frames := 3, cells := 2, slots := 9, locals := 40 } : Room).cells ({ frames := 3, cells := 2, slots := 9, locals := 40 } : Room).slots) := by
  refine MetFree.of_bodySF (plainFor_of_name pn_4) hisR ?_
  intro p e s m args below meth c s₁ Bd hml0 hP hK
  obtain ⟨rfl, hZ, hh⟩ := hP
  have hx := Bd.exec
  have hby := Bd.bytes
  have hlk := Bd.notSynchronized
  have hml : c.maxLocals = 6 := hml0
  have hown : s.vm.findClass "java/lang/StringUTF16" = some m.cls := findClass_of_methodNamed Bd.named
  have hnm := (name_of_methodNamed Bd.named Bd.method).1
  have X0 : Stand p l e ({ frames := 3, cells := 2, slots := 9, locals := 40 } : Room) s m #[(.ref a1), (.int (0 : Int32)), (.int (Int32.ofNat 1))] below meth c s₁ [] 0 0 := Stand.of_body Bd
  have e0 : s₁.heap = h0 := by rw [← hh, Bd.state]; rfl
  have N0 := Fr.nil n0
  have K0 : Keep h0 h0 [] := Keep.refl h0 _
  show Goes p e below s ({ frames := 3, cells := 2, slots := 9, locals := 40 } : Room).cells ({ frames := 3, cells := 2, slots := 9, locals := 40 } : Room).slots (Q4n1 Z a1 f h0 n0) s₁ (entryFrame m #[(.ref a1), (.int (0 : Int32)), (.int (Int32.ofNat 1))] 6)
  refine Goes.step (fun t k => castTop (ef_4n1 m a1) k) ?_
  refine Goes.step (fun _ k => XS.iloadN X0.here hx rfl (hb hby d4_0) rfl k) ?_
  obtain ⟨T1, h1, X1, e1, E1, A1, st1⟩ := newI X0 hx hZ (hw _ (List.mem_of_getElem? (i := 21) rfl)) e0 (g := (mkF m 1 #[.val (.ref a1), .val (.int (0 : Int32)), .val (.int (Int32.ofNat 1)), .unset, .unset, .unset] [(.int (Int32.ofNat 1))])) rfl (hb hby d4_1) rfl (N := 1) rfl (cap := 1) (by decide) (by decide) (by decide) (by decide) rfl (by decide)
  obtain ⟨b1, g_1⟩ : ∃ z, z = h0.size := ⟨_, rfl⟩
  rw [← g_1] at A1 st1
  refine Goes.step st1 ?_
  have ne_a1_b1 : a1 ≠ b1 := Nat.ne_of_lt (by rw [g_1]; exact A_a1_0.lt)
  have ge_b1 : n0 ≤ b1 := by rw [g_1]; exact Z0
  have sz_b1 : h0.size ≤ b1 := by rw [g_1]; exact K0.1
  have A_a1_1 := A_a1_0.ext E1
  have z_1 : n0 ≤ h1.size := Nat.le_trans Z0 E1.1
  have K_1 : Keep h0 h1 [] := K0.ext E1
  have A_b1_1 : Ari Z h1 b1 .byte (1) (fun _ => 0) := A1
  show Goes p e below s _ _ _ T1 (mkF m 3 #[.val (.ref a1), .val (.int (0 : Int32)), .val (.int (Int32.ofNat 1)), .unset, .unset, .unset] [(.ref b1)])
  refine Goes.step (fun _ k => XS.astoreN X1.here hx rfl (hb hby d4_3) rfl rfl (l' := #[.val (.ref a1), .val (.int (0 : Int32)), .val (.int (Int32.ofNat 1)), .val (.ref b1), .unset, .unset]) rfl k) ?_
  refine Goes.step (fun _ k => XS.aloadN X1.here hx rfl (hb hby d4_4) rfl rfl k) ?_
  show Goes p e below s _ _ _ T1 (mkF m 5 #[.val (.ref a1), .val (.int (0 : Int32)), .val (.int (Int32.ofNat 1)), .val (.ref b1), .unset, .unset] [(.ref a1)])
  refine Goes.step (fun _ k => XS.iloadN X1.here hx rfl (hb hby d4_5) rfl k) ?_
  refine Goes.step (fun _ k => XS.aloadN X1.here hx rfl (hb hby d4_6) rfl rfl k) ?_
  show Goes p e below s _ _ _ T1 (mkF m 7 #[.val (.ref a1), .val (.int (0 : Int32)), .val (.int (Int32.ofNat 1)), .val (.ref b1), .unset, .unset] [(.ref b1), (.int (0 : Int32)), (.ref a1)])
  refine Goes.step (fun _ k => XS.iconst X1.here hx rfl (hb hby d4_7) k) ?_
  refine Goes.step (fun _ k => XS.iloadN X1.here hx rfl (hb hby d4_8) rfl k) ?_
  show Goes p e below s _ _ _ T1 (mkF m 9 #[.val (.ref a1), .val (.int (0 : Int32)), .val (.int (Int32.ofNat 1)), .val (.ref b1), .unset, .unset] [(.int (Int32.ofNat 1)), (.int (0 : Int32)), (.ref b1), (.int (0 : Int32)), (.ref a1)])
  obtain ⟨v2, T2, h2, L2, X2, e2, Q2, st2⟩ := callX X1 hx hZ (y := (⟨"java/lang/StringUTF16", "compress", "([CI[BII)I"⟩ : MethodName)) hown (hw _ (List.mem_of_getElem? (i := 22) rfl)) (hw _ (List.mem_of_getElem? (i := 23) rfl)) (hw _ (List.mem_of_getElem? (i := 19) rfl)) (hw _ (List.mem_of_getElem? (i := 24) rfl)) (by decide) (W := 0) (argsL := [(.ref a1), (.int (0 : Int32)), (.ref b1), (.int (0 : Int32)), (.int (Int32.ofNat 1))]) (rest := []) (rm5n1 l Z a0 hw [] a1 b1 f (fun _ => 0) h1 n0 z_1 A_a1_1 A_b1_1 ne_a1_b1 ge_b1) (by decide) (by decide) (by decide) (by decide) e1 (g := (mkF m 9 #[.val (.ref a1), .val (.int (0 : Int32)), .val (.int (Int32.ofNat 1)), .val (.ref b1), .unset, .unset] [(.int (Int32.ofNat 1)), (.int (0 : Int32)), (.ref b1), (.int (0 : Int32)), (.ref a1)])) rfl (by rw [hml]; rfl) (lenOf pd_4n1_0 rfl) rfl (by show 2 * 0 + _ ≤ _; exact Nat.le_of_eq rfl) (hb hby d4_9)
  obtain ⟨r2, rfl, NQ2, KQ2, hR2⟩ := Q2
  refine Goes.step st2 ?_
  have A_a1_2 := A_a1_1.keep KQ2 (ninS ne_a1_b1 nin0)
  have z_2 : n0 ≤ h2.size := Nat.le_trans z_1 KQ2.1
  have K_2 : Keep h0 h2 [] := Keep.trans K_1 KQ2 (allS (Or.inr sz_b1) all0)
  have N_2 := Fr.app N0 NQ2
  show Goes p e below s _ _ _ T2 (mkF m 12 #[.val (.ref a1), .val (.int (0 : Int32)), .val (.int (Int32.ofNat 1)), .val (.ref b1), .unset, .unset] [(.int (Int32.ofNat r2))])
  rcases hR2 with ⟨hr, hall, hAr⟩ | ⟨hlt, hgt⟩
  · subst hr
    refine Goes.step (fun _ k => XS.istore X2.here hx rfl (hb hby d4_12) rfl (l' := #[.val (.ref a1), .val (.int (0 : Int32)), .val (.int (Int32.ofNat 1)), .val (.ref b1), .val (.int (Int32.ofNat 1)), .unset]) rfl k) ?_
    refine Goes.step (fun _ k => XS.iload X2.here hx rfl (hb hby d4_14) rfl k) ?_
    show Goes p e below s _ _ _ T2 (mkF m 16 #[.val (.ref a1), .val (.int (0 : Int32)), .val (.int (Int32.ofNat 1)), .val (.ref b1), .val (.int (Int32.ofNat 1)), .unset] [(.int (Int32.ofNat 1))])
    refine Goes.step (fun _ k => XS.iloadN X2.here hx rfl (hb hby d4_16) rfl k) ?_
    refine Goes.step (fun _ k => XS.icmpYes X2.here hx rfl (pc0 := 17) (pc' := 57) rfl (hb hby d4_17) rfl (teq (by decide : (Int32.ofNat 1) = (Int32.ofNat 1))).1 (by decide) (by decide) k) ?_
    show Goes p e below s _ _ _ T2 (mkF m 57 #[.val (.ref a1), .val (.int (0 : Int32)), .val (.int (Int32.ofNat 1)), .val (.ref b1), .val (.int (Int32.ofNat 1)), .unset] [])
    refine Goes.step (fun _ k => XS.aloadN X2.here hx rfl (hb hby d4_57) rfl rfl k) ?_
    show Goes p e below s _ _ _ T2 (mkF m 58 #[.val (.ref a1), .val (.int (0 : Int32)), .val (.int (Int32.ofNat 1)), .val (.ref b1), .val (.int (Int32.ofNat 1)), .unset] [(.ref b1)])
    exact Goes.outR X2 hx hlk Bd.returns rfl rfl (hb hby d4_58) (by rw [e2]; exact ⟨b1, rfl, N_2, K_2, sz_b1, Or.inl ⟨hAr, hall⟩⟩) (by decide) (by decide)
  · have hlt0 := hlt
    refine Goes.step (fun _ k => XS.istore X2.here hx rfl (hb hby d4_12) rfl (l' := #[.val (.ref a1), .val (.int (0 : Int32)), .val (.int (Int32.ofNat 1)), .val (.ref b1), .val (.int (Int32.ofNat r2)), .unset]) rfl k) ?_
    refine Goes.step (fun _ k => XS.iload X2.here hx rfl (hb hby d4_14) rfl k) ?_
    show Goes p e below s _ _ _ T2 (mkF m 16 #[.val (.ref a1), .val (.int (0 : Int32)), .val (.int (Int32.ofNat 1)), .val (.ref b1), .val (.int (Int32.ofNat r2)), .unset] [(.int (Int32.ofNat r2))])
    refine Goes.step (fun _ k => XS.iloadN X2.here hx rfl (hb hby d4_16) rfl k) ?_
    refine Goes.step (fun _ k => XS.icmpNo X2.here hx rfl (hb hby d4_17) rfl (feq (own_neq hlt (by decide) rfl)).1 k) ?_
    show Goes p e below s _ _ _ T2 (mkF m 20 #[.val (.ref a1), .val (.int (0 : Int32)), .val (.int (Int32.ofNat 1)), .val (.ref b1), .val (.int (Int32.ofNat r2)), .unset] [])
    refine Goes.step (fun _ k => XS.aloadN X2.here hx rfl (hb hby d4_20) rfl rfl k) ?_
    refine Goes.step (fun _ k => XS.iloadN X2.here hx rfl (hb hby d4_21) rfl k) ?_
    show Goes p e below s _ _ _ T2 (mkF m 22 #[.val (.ref a1), .val (.int (0 : Int32)), .val (.int (Int32.ofNat 1)), .val (.ref b1), .val (.int (Int32.ofNat r2)), .unset] [(.int (0 : Int32)), (.ref a1)])
    refine Goes.step (fun _ k => XS.iloadN X2.here hx rfl (hb hby d4_22) rfl k) ?_
    obtain ⟨v3, T3, h3, L3, X3, e3, Q3, st3⟩ := callX X2 hx hZ (y := (⟨"java/lang/StringUTF16", "toBytes", "([CII)[B"⟩ : MethodName)) hown (hw _ (List.mem_of_getElem? (i := 75) rfl)) (hw _ (List.mem_of_getElem? (i := 76) rfl)) (hw _ (List.mem_of_getElem? (i := 19) rfl)) (hw _ (List.mem_of_getElem? (i := 77) rfl)) (by decide) (W := 0) (argsL := [(.ref a1), (.int (0 : Int32)), (.int (Int32.ofNat 1))]) (rest := []) (rm17n1 l Z a0 hw [] a1 f h2 n0 z_2 (OL.keep K_2 all0) O5 O6 O7 A_a1_2) (by decide) (by decide) (by decide) (by decide) e2 (g := (mkF m 23 #[.val (.ref a1), .val (.int (0 : Int32)), .val (.int (Int32.ofNat 1)), .val (.ref b1), .val (.int (Int32.ofNat r2)), .unset] [(.int (Int32.ofNat 1)), (.int (0 : Int32)), (.ref a1)])) rfl (by rw [hml]; rfl) (lenOf pd_4n1_1 rfl) rfl (by show 2 * 0 + _ ≤ _; exact Nat.le_of_eq rfl) (hb hby d4_23)
    obtain ⟨o3, rfl, NQ3, KQ3, so3, hA3⟩ := Q3
    refine Goes.step st3 ?_
    have A_a1_3 := A_a1_2.keep KQ3 nin0
    have z_3 : n0 ≤ h3.size := Nat.le_trans z_2 KQ3.1
    have K_3 : Keep h0 h3 [] := Keep.trans K_2 KQ3 all0
    have N_3 := Fr.app N_2 NQ3
    have ne_o3_a1 : o3 ≠ a1 := Nat.ne_of_gt (Nat.lt_of_lt_of_le A_a1_2.lt so3)
    have ge_o3 : n0 ≤ o3 := Nat.le_trans z_2 so3
    have sz_o3 : h0.size ≤ o3 := Nat.le_trans K_2.1 so3
    show Goes p e below s _ _ _ T3 (mkF m 26 #[.val (.ref a1), .val (.int (0 : Int32)), .val (.int (Int32.ofNat 1)), .val (.ref b1), .val (.int (Int32.ofNat r2)), .unset] [(.ref o3)])
    refine Goes.step (fun _ k => XS.astore X3.here hx rfl (hb hby d4_26) rfl rfl (l' := #[.val (.ref a1), .val (.int (0 : Int32)), .val (.int (Int32.ofNat 1)), .val (.ref b1), .val (.int (Int32.ofNat r2)), .val (.ref o3)]) rfl k) ?_
    refine Goes.step (fun _ k => XS.aload X3.here hx rfl (hb hby d4_28) rfl rfl k) ?_
    show Goes p e below s _ _ _ T3 (mkF m 30 #[.val (.ref a1), .val (.int (0 : Int32)), .val (.int (Int32.ofNat 1)), .val (.ref b1), .val (.int (Int32.ofNat r2)), .val (.ref o3)] [(.ref o3)])
    refine Goes.step (fun _ k => XS.iload X3.here hx rfl (hb hby d4_30) rfl k) ?_
    obtain ⟨T4, X4, e4, st4⟩ := own_pure (r := some (.int (own_g1 ((own_u f) (2 * r2)) ((own_u f) (2 * r2 + 1))))) (fun _ _ _ q => q) (callX X3 hx hZ (y := (⟨"java/lang/StringUTF16", "getChar", "([BI)C"⟩ : MethodName)) hown (hw _ (List.mem_of_getElem? (i := 91) rfl)) (hw _ (List.mem_of_getElem? (i := 92) rfl)) (hw _ (List.mem_of_getElem? (i := 19) rfl)) (hw _ (List.mem_of_getElem? (i := 93) rfl)) (by decide) (W := 0) (argsL := [(.ref o3), (.int (Int32.ofNat r2))]) (rest := []) (rm21 l Z a0 hw [] o3 (Int32.ofNat r2) r2 1 (own_u f) h3 n0 z_3 (OL.keep K_3 all0) O5 O6 O7 hA3 rfl hlt (by decide)) (by decide) (by decide) (by decide) (by decide) e3 (g := (mkF m 32 #[.val (.ref a1), .val (.int (0 : Int32)), .val (.int (Int32.ofNat 1)), .val (.ref b1), .val (.int (Int32.ofNat r2)), .val (.ref o3)] [(.int (Int32.ofNat r2)), (.ref o3)])) rfl (by rw [hml]; rfl) (lenOf pd_4n1_2 rfl) rfl (by show 2 * 0 + _ ≤ _; exact Nat.le_of_eq rfl) (hb hby d4_32))
    refine Goes.step st4 ?_
    show Goes p e below s _ _ _ T4 (mkF m 35 #[.val (.ref a1), .val (.int (0 : Int32)), .val (.int (Int32.ofNat 1)), .val (.ref b1), .val (.int (Int32.ofNat r2)), .val (.ref o3)] [(.int (own_g1 ((own_u f) (2 * r2)) ((own_u f) (2 * r2 + 1))))])
    refine Goes.step (fun _ k => XS.sipush X4.here hx rfl (hb hby d4_35) k) ?_
    refine Goes.step (fun _ k => XS.icmpYes X4.here hx rfl (pc0 := 38) (pc' := 54) rfl (hb hby d4_38) rfl (tlt (own_gt rg hlt hgt)).2.2.1 (by decide) (by decide) k) ?_
    show Goes p e below s _ _ _ T4 (mkF m 54 #[.val (.ref a1), .val (.int (0 : Int32)), .val (.int (Int32.ofNat 1)), .val (.ref b1), .val (.int (Int32.ofNat r2)), .val (.ref o3)] [])
    refine Goes.step (fun _ k => XS.aload X4.here hx rfl (hb hby d4_54) rfl rfl k) ?_
    show Goes p e below s _ _ _ T4 (mkF m 56 #[.val (.ref a1), .val (.int (0 : Int32)), .val (.int (Int32.ofNat 1)), .val (.ref b1), .val (.int (Int32.ofNat r2)), .val (.ref o3)] [(.ref o3)])
    exact Goes.outR X4 hx hlk Bd.returns rfl rfl (hb hby d4_56) (by rw [e4]; exact ⟨o3, rfl, N_3, K_3, sz_o3, Or.inr hA3⟩) (by decide) (by decide)
theorem own_tb2 (f : Nat → Int32) (j : Nat) (hj : j < 2 * 2) : (updI (updI (updI (updI (fun _ => 0) (2 * 0) (own_bb ((f (0)) >>> ((0 : Int32) &&& 31)))) (2 * 0 + 1) (own_bb ((f (0)) >>> ((8 : Int32) &&& 31)))) (2 * 1) (own_bb ((f (1)) >>> ((0 : Int32) &&& 31)))) (2 * 1 + 1) (own_bb ((f (1)) >>> ((8 : Int32) &&& 31)))) j = own_u f j := by
  obtain rfl | rfl | rfl | rfl : j = 0 ∨ j = 1 ∨ j = 2 ∨ j = 3 := by omega
  all_goals simp [updI, own_u]
theorem pd_17n2_0 : parseMethodDescriptor "(I)[B" = some ⟨[.int], some (.array .byte)⟩ := by decide +kernel
theorem pd_17n2_1 : parseMethodDescriptor "([BII)V" = some ⟨[(.array .byte), .int, .int], none⟩ := by decide +kernel
theorem ef_17n2 (m : MethodId) (a1 : Addr) : entryFrame m #[(.ref a1), (.int (0 : Int32)), (.int (Int32.ofNat 2))] 5 = mkF m 0 #[.val (.ref a1), .val (.int (0 : Int32)), .val (.int (Int32.ofNat 2)), .unset, .unset] [] := by first | (simp [entryFrame, mkF, argsToLocals, Value.category]; done) | rfl
def Q17n2 (Z : State) (a1 : Addr) (f : Nat → Int32) (h0 : Heap) (n0 : Nat) (v : Option Value) (h : Heap) (L : List Loc) : Prop := ∃ o, v = some (.ref o) ∧ Fr n0 L ∧ Keep h0 h [] ∧ h0.size ≤ o ∧ Ari Z h o .byte (2 * 2) (own_u f)
set_option maxRecDepth 65536 in
set_option maxHeartbeats 40000000 in
theorem rm17n2 (l : Launch) (Z : State) (a0 : Array Value) (hw : ∀ d ∈ tables_1, d.before a0 Z = true) (ws : List Jvm.Cond) (a1 : Addr) (f : Nat → Int32) (h0 : Heap) (n0 : Nat) (Z0 : n0 ≤ h0.size) (OL : Old Z n0 h0) (O5 : Sta Z Z.heap "java/lang/StringUTF16" "$assertionsDisabled" "Z" (.int (1 : Int32))) (O6 : Sta Z Z.heap "java/lang/StringUTF16" "HI_BYTE_SHIFT" "I" (.int (0 : Int32))) (O7 : Sta Z Z.heap "java/lang/StringUTF16" "LO_BYTE_SHIFT" "I" (.int (8 : Int32))) (A_a1_0 : Ari Z h0 a1 .char 2 f) :
    MetFree l (⟨"java/lang/StringUTF16", "toBytes", "([CII)[B"⟩ : MethodName) (head1 (Jvm.Cond.code (⟨"java/lang/StringUTF16", "toBytes", "([CII)[B"⟩ : MethodName) jdk_52_method_14_code 5 (some (.array .byte)) :: ws) ({ frames := 2, cells := 1, slots := 8, locals := 24 } : Room)) (fun a U => a = #[(.ref a1), (.int (0 : Int32)), (.int (Int32.ofNat 2))] ∧ Z.Warmed39 U.vm ∧ U.heap = h0) (fun _ _ _ _ _ => True) (fun _ U o U' => ∃ v L, o = .returned v ∧ Q17n2 Z a1 f h0 n0 v U'.heap L ∧ FrameEnd U o U' L ({ frames := 2, cells := 1, slots := 8, locals := 24 } : Room).cells ({ frames := 2, cells := 1, slots := 8, locals := 24 } : Room).slots) := by
  refine MetFree.of_bodySF (plainFor_of_name pn_17) hisR ?_
  intro p e s m args below meth c s₁ Bd hml0 hP hK
  obtain ⟨rfl, hZ, hh⟩ := hP
  have hx := Bd.exec
  have hby := Bd.bytes
  have hlk := Bd.notSynchronized
  have hml : c.maxLocals = 5 := hml0
  have hown : s.vm.findClass "java/lang/StringUTF16" = some m.cls := findClass_of_methodNamed Bd.named
  have hnm := (name_of_methodNamed Bd.named Bd.method).1
  have X0 : Stand p l e ({ frames := 2, cells := 1, slots := 8, locals := 24 } : Room) s m #[(.ref a1), (.int (0 : Int32)), (.int (Int32.ofNat 2))] below meth c s₁ [] 0 0 := Stand.of_body Bd
  have e0 : s₁.heap = h0 := by rw [← hh, Bd.state]; rfl
  have N0 := Fr.nil n0
  have K0 : Keep h0 h0 [] := Keep.refl h0 _
  show Goes p e below s ({ frames := 2, cells := 1, slots := 8, locals := 24 } : Room).cells ({ frames := 2, cells := 1, slots := 8, locals := 24 } : Room).slots (Q17n2 Z a1 f h0 n0) s₁ (entryFrame m #[(.ref a1), (.int (0 : Int32)), (.int (Int32.ofNat 2))] 5)
  refine Goes.step (fun t k => castTop (ef_17n2 m a1) k) ?_
  refine Goes.step (fun _ k => XS.iloadN X0.here hx rfl (hb hby d17_0) rfl k) ?_
  obtain ⟨v1, T1, h1, L1, X1, e1, Q1, st1⟩ := callX X0 hx hZ (y := (⟨"java/lang/StringUTF16", "newBytesFor", "(I)[B"⟩ : MethodName)) hown (hw _ (List.mem_of_getElem? (i := 78) rfl)) (hw _ (List.mem_of_getElem? (i := 79) rfl)) (hw _ (List.mem_of_getElem? (i := 19) rfl)) (hw _ (List.mem_of_getElem? (i := 80) rfl)) (by decide) (W := 0) (argsL := [(.int (Int32.ofNat 2))]) (rest := []) (rm18 l Z a0 hw [] (Int32.ofNat 2) 2 h0 n0 Z0 rfl (by decide)) (by decide) (by decide) (by decide) (by decide) e0 (g := (mkF m 1 #[.val (.ref a1), .val (.int (0 : Int32)), .val (.int (Int32.ofNat 2)), .unset, .unset] [(.int (Int32.ofNat 2))])) rfl (by rw [hml]; rfl) (lenOf pd_17n2_0 rfl) rfl (by show 2 * 0 + _ ≤ _; exact Nat.le_of_eq rfl) (hb hby d17_1)
  obtain ⟨o1, rfl, NQ1, KQ1, so1, hA1⟩ := Q1
  refine Goes.step st1 ?_
  have A_a1_1 := A_a1_0.keep KQ1 nin0
  have z_1 : n0 ≤ h1.size := Nat.le_trans Z0 KQ1.1
  have K_1 : Keep h0 h1 [] := Keep.trans K0 KQ1 all0
  have N_1 := Fr.app N0 NQ1
  have ne_o1_a1 : o1 ≠ a1 := Nat.ne_of_gt (Nat.lt_of_lt_of_le A_a1_0.lt so1)
  have ge_o1 : n0 ≤ o1 := Nat.le_trans Z0 so1
  have sz_o1 : h0.size ≤ o1 := Nat.le_trans K0.1 so1
  show Goes p e below s _ _ _ T1 (mkF m 4 #[.val (.ref a1), .val (.int (0 : Int32)), .val (.int (Int32.ofNat 2)), .unset, .unset] [(.ref o1)])
  refine Goes.step (fun _ k => XS.astoreN X1.here hx rfl (hb hby d17_4) rfl rfl (l' := #[.val (.ref a1), .val (.int (0 : Int32)), .val (.int (Int32.ofNat 2)), .val (.ref o1), .unset]) rfl k) ?_
  refine Goes.step (fun _ k => XS.iconst X1.here hx rfl (hb hby d17_5) k) ?_
  show Goes p e below s _ _ _ T1 (mkF m 6 #[.val (.ref a1), .val (.int (0 : Int32)), .val (.int (Int32.ofNat 2)), .val (.ref o1), .unset] [(.int (0 : Int32))])
  refine Goes.step (fun _ k => XS.istore X1.here hx rfl (hb hby d17_6) rfl (l' := #[.val (.ref a1), .val (.int (0 : Int32)), .val (.int (Int32.ofNat 2)), .val (.ref o1), .val (.int (0 : Int32))]) rfl k) ?_
  refine Goes.step (fun _ k => XS.iload X1.here hx rfl (hb hby d17_8) rfl k) ?_
  show Goes p e below s _ _ _ T1 (mkF m 10 #[.val (.ref a1), .val (.int (0 : Int32)), .val (.int (Int32.ofNat 2)), .val (.ref o1), .val (.int (0 : Int32))] [(.int (0 : Int32))])
  refine Goes.step (fun _ k => XS.iloadN X1.here hx rfl (hb hby d17_10) rfl k) ?_
  refine Goes.step (fun _ k => XS.icmpNo X1.here hx rfl (hb hby d17_11) rfl (tlt (by decide : (0 : Int32) < (Int32.ofNat 2))).2.1 k) ?_
  show Goes p e below s _ _ _ T1 (mkF m 14 #[.val (.ref a1), .val (.int (0 : Int32)), .val (.int (Int32.ofNat 2)), .val (.ref o1), .val (.int (0 : Int32))] [])
  refine Goes.step (fun _ k => XS.aloadN X1.here hx rfl (hb hby d17_14) rfl rfl k) ?_
  refine Goes.step (fun _ k => XS.iload X1.here hx rfl (hb hby d17_15) rfl k) ?_
  show Goes p e below s _ _ _ T1 (mkF m 17 #[.val (.ref a1), .val (.int (0 : Int32)), .val (.int (Int32.ofNat 2)), .val (.ref o1), .val (.int (0 : Int32))] [(.int (0 : Int32)), (.ref o1)])
  refine Goes.step (fun _ k => XS.aloadN X1.here hx rfl (hb hby d17_17) rfl rfl k) ?_
  refine Goes.step (fun _ k => XS.iloadN X1.here hx rfl (hb hby d17_18) rfl k) ?_
  show Goes p e below s _ _ _ T1 (mkF m 19 #[.val (.ref a1), .val (.int (0 : Int32)), .val (.int (Int32.ofNat 2)), .val (.ref o1), .val (.int (0 : Int32))] [(.int (0 : Int32)), (.ref a1), (.int (0 : Int32)), (.ref o1)])
  refine Goes.step (fun _ k => rdC X1 hx hZ e1 A_a1_1 (0) rfl (by decide) (g := (mkF m 19 #[.val (.ref a1), .val (.int (0 : Int32)), .val (.int (Int32.ofNat 2)), .val (.ref o1), .val (.int (0 : Int32))] [(.int (0 : Int32)), (.ref a1), (.int (0 : Int32)), (.ref o1)])) rfl rfl (hb hby d17_19) _ k) ?_
  show Goes p e below s _ _ _ T1 (mkF m 20 #[.val (.ref a1), .val (.int (0 : Int32)), .val (.int (Int32.ofNat 2)), .val (.ref o1), .val (.int (0 : Int32))] [(.int (f (0))), (.int (0 : Int32)), (.ref o1)])
  obtain ⟨v2, T2, h2, L2, X2, e2, Q2, st2⟩ := callX X1 hx hZ (y := (⟨"java/lang/StringUTF16", "putChar", "([BII)V"⟩ : MethodName)) hown (hw _ (List.mem_of_getElem? (i := 85) rfl)) (hw _ (List.mem_of_getElem? (i := 86) rfl)) (hw _ (List.mem_of_getElem? (i := 19) rfl)) (hw _ (List.mem_of_getElem? (i := 87) rfl)) (by decide) (W := 0) (argsL := [(.ref o1), (.int (0 : Int32)), (.int (f (0)))]) (rest := []) (rm20 l Z a0 hw [] o1 (0 : Int32) (f (0)) 0 2 (fun _ => 0) h1 n0 z_1 (OL.keep K_1 all0) O5 O6 O7 hA1 rfl (by decide) (by decide) ge_o1) (by decide) (by decide) (by decide) (by decide) e1 (g := (mkF m 20 #[.val (.ref a1), .val (.int (0 : Int32)), .val (.int (Int32.ofNat 2)), .val (.ref o1), .val (.int (0 : Int32))] [(.int (f (0))), (.int (0 : Int32)), (.ref o1)])) rfl (by rw [hml]; rfl) (lenOf pd_17n2_1 rfl) rfl (by show 2 * 0 + _ ≤ _; exact Nat.le_of_eq rfl) (hb hby d17_20)
  obtain ⟨rfl, NQ2, KQ2, hA2⟩ := Q2
  refine Goes.step st2 ?_
  have A_a1_2 := A_a1_1.keep KQ2 (ninS (Ne.symm ne_o1_a1) nin0)
  have z_2 : n0 ≤ h2.size := Nat.le_trans z_1 KQ2.1
  have K_2 : Keep h0 h2 [] := Keep.trans K_1 KQ2 (allS (Or.inr sz_o1) all0)
  have N_2 := Fr.app N_1 NQ2
  show Goes p e below s _ _ _ T2 (mkF m 23 #[.val (.ref a1), .val (.int (0 : Int32)), .val (.int (Int32.ofNat 2)), .val (.ref o1), .val (.int (0 : Int32))] [])
  refine Goes.step (fun _ k => XS.iinc X2.here hx rfl (hb hby d17_23) rfl (l' := #[.val (.ref a1), .val (.int (1 : Int32)), .val (.int (Int32.ofNat 2)), .val (.ref o1), .val (.int (0 : Int32))]) rfl k) ?_
  show Goes p e below s _ _ _ T2 (mkF m 26 #[.val (.ref a1), .val (.int (1 : Int32)), .val (.int (Int32.ofNat 2)), .val (.ref o1), .val (.int (0 : Int32))] [])
  refine Goes.step (fun _ k => XS.iinc X2.here hx rfl (hb hby d17_26) rfl (l' := #[.val (.ref a1), .val (.int (1 : Int32)), .val (.int (Int32.ofNat 2)), .val (.ref o1), .val (.int (1 : Int32))]) rfl k) ?_
  show Goes p e below s _ _ _ T2 (mkF m 29 #[.val (.ref a1), .val (.int (1 : Int32)), .val (.int (Int32.ofNat 2)), .val (.ref o1), .val (.int (1 : Int32))] [])
  refine Goes.step (fun _ k => XS.goto X2.here hx rfl (pc0 := 29) (pc' := 8) rfl (hb hby d17_29) (by decide) (by decide) k) ?_
  refine Goes.step (fun _ k => XS.iload X2.here hx rfl (hb hby d17_8) rfl k) ?_
  show Goes p e below s _ _ _ T2 (mkF m 10 #[.val (.ref a1), .val (.int (1 : Int32)), .val (.int (Int32.ofNat 2)), .val (.ref o1), .val (.int (1 : Int32))] [(.int (1 : Int32))])
  refine Goes.step (fun _ k => XS.iloadN X2.here hx rfl (hb hby d17_10) rfl k) ?_
  refine Goes.step (fun _ k => XS.icmpNo X2.here hx rfl (hb hby d17_11) rfl (tlt (by decide : (1 : Int32) < (Int32.ofNat 2))).2.1 k) ?_
  show Goes p e below s _ _ _ T2 (mkF m 14 #[.val (.ref a1), .val (.int (1 : Int32)), .val (.int (Int32.ofNat 2)), .val (.ref o1), .val (.int (1 : Int32))] [])
  refine Goes.step (fun _ k => XS.aloadN X2.here hx rfl (hb hby d17_14) rfl rfl k) ?_
  refine Goes.step (fun _ k => XS.iload X2.here hx rfl (hb hby d17_15) rfl k) ?_
  show Goes p e below s _ _ _ T2 (mkF m 17 #[.val (.ref a1), .val (.int (1 : Int32)), .val (.int (Int32.ofNat 2)), .val (.ref o1), .val (.int (1 : Int32))] [(.int (1 : Int32)), (.ref o1)])
  refine Goes.step (fun _ k => XS.aloadN X2.here hx rfl (hb hby d17_17) rfl rfl k) ?_
  refine Goes.step (fun _ k => XS.iloadN X2.here hx rfl (hb hby d17_18) rfl k) ?_
  show Goes p e below s _ _ _ T2 (mkF m 19 #[.val (.ref a1), .val (.int (1 : Int32)), .val (.int (Int32.ofNat 2)), .val (.ref o1), .val (.int (1 : Int32))] [(.int (1 : Int32)), (.ref a1), (.int (1 : Int32)), (.ref o1)])
  refine Goes.step (fun _ k => rdC X2 hx hZ e2 A_a1_2 (1) rfl (by decide) (g := (mkF m 19 #[.val (.ref a1), .val (.int (1 : Int32)), .val (.int (Int32.ofNat 2)), .val (.ref o1), .val (.int (1 : Int32))] [(.int (1 : Int32)), (.ref a1), (.int (1 : Int32)), (.ref o1)])) rfl rfl (hb hby d17_19) _ k) ?_
  show Goes p e below s _ _ _ T2 (mkF m 20 #[.val (.ref a1), .val (.int (1 : Int32)), .val (.int (Int32.ofNat 2)), .val (.ref o1), .val (.int (1 : Int32))] [(.int (f (1))), (.int (1 : Int32)), (.ref o1)])
  obtain ⟨v3, T3, h3, L3, X3, e3, Q3, st3⟩ := callX X2 hx hZ (y := (⟨"java/lang/StringUTF16", "putChar", "([BII)V"⟩ : MethodName)) hown (hw _ (List.mem_of_getElem? (i := 85) rfl)) (hw _ (List.mem_of_getElem? (i := 86) rfl)) (hw _ (List.mem_of_getElem? (i := 19) rfl)) (hw _ (List.mem_of_getElem? (i := 87) rfl)) (by decide) (W := 0) (argsL := [(.ref o1), (.int (1 : Int32)), (.int (f (1)))]) (rest := []) (rm20 l Z a0 hw [] o1 (1 : Int32) (f (1)) 1 2 (updI (updI (fun _ => 0) (2 * 0) (own_bb ((f (0)) >>> ((0 : Int32) &&& 31)))) (2 * 0 + 1) (own_bb ((f (0)) >>> ((8 : Int32) &&& 31)))) h2 n0 z_2 (OL.keep K_2 all0) O5 O6 O7 hA2 rfl (by decide) (by decide) ge_o1) (by decide) (by decide) (by decide) (by decide) e2 (g := (mkF m 20 #[.val (.ref a1), .val (.int (1 : Int32)), .val (.int (Int32.ofNat 2)), .val (.ref o1), .val (.int (1 : Int32))] [(.int (f (1))), (.int (1 : Int32)), (.ref o1)])) rfl (by rw [hml]; rfl) (lenOf pd_17n2_1 rfl) rfl (by show 2 * 0 + _ ≤ _; exact Nat.le_of_eq rfl) (hb hby d17_20)
  obtain ⟨rfl, NQ3, KQ3, hA3⟩ := Q3
  refine Goes.step st3 ?_
  have A_a1_3 := A_a1_2.keep KQ3 (ninS (Ne.symm ne_o1_a1) nin0)
  have z_3 : n0 ≤ h3.size := Nat.le_trans z_2 KQ3.1
  have K_3 : Keep h0 h3 [] := Keep.trans K_2 KQ3 (allS (Or.inr sz_o1) all0)
  have N_3 := Fr.app N_2 NQ3
  show Goes p e below s _ _ _ T3 (mkF m 23 #[.val (.ref a1), .val (.int (1 : Int32)), .val (.int (Int32.ofNat 2)), .val (.ref o1), .val (.int (1 : Int32))] [])
  refine Goes.step (fun _ k => XS.iinc X3.here hx rfl (hb hby d17_23) rfl (l' := #[.val (.ref a1), .val (.int (2 : Int32)), .val (.int (Int32.ofNat 2)), .val (.ref o1), .val (.int (1 : Int32))]) rfl k) ?_
  show Goes p e below s _ _ _ T3 (mkF m 26 #[.val (.ref a1), .val (.int (2 : Int32)), .val (.int (Int32.ofNat 2)), .val (.ref o1), .val (.int (1 : Int32))] [])
  refine Goes.step (fun _ k => XS.iinc X3.here hx rfl (hb hby d17_26) rfl (l' := #[.val (.ref a1), .val (.int (2 : Int32)), .val (.int (Int32.ofNat 2)), .val (.ref o1), .val (.int (2 : Int32))]) rfl k) ?_
  show Goes p e below s _ _ _ T3 (mkF m 29 #[.val (.ref a1), .val (.int (2 : Int32)), .val (.int (Int32.ofNat 2)), .val (.ref o1), .val (.int (2 : Int32))] [])
  refine Goes.step (fun _ k => XS.goto X3.here hx rfl (pc0 := 29) (pc' := 8) rfl (hb hby d17_29) (by decide) (by decide) k) ?_
  refine Goes.step (fun _ k => XS.iload X3.here hx rfl (hb hby d17_8) rfl k) ?_
  show Goes p e below s _ _ _ T3 (mkF m 10 #[.val (.ref a1), .val (.int (2 : Int32)), .val (.int (Int32.ofNat 2)), .val (.ref o1), .val (.int (2 : Int32))] [(.int (2 : Int32))])
  refine Goes.step (fun _ k => XS.iloadN X3.here hx rfl (hb hby d17_10) rfl k) ?_
  refine Goes.step (fun _ k => XS.icmpYes X3.here hx rfl (pc0 := 11) (pc' := 32) rfl (hb hby d17_11) rfl (flt (by decide : ¬ ((2 : Int32) < (Int32.ofNat 2)))).2.1 (by decide) (by decide) k) ?_
  show Goes p e below s _ _ _ T3 (mkF m 32 #[.val (.ref a1), .val (.int (2 : Int32)), .val (.int (Int32.ofNat 2)), .val (.ref o1), .val (.int (2 : Int32))] [])
  refine Goes.step (fun _ k => XS.aloadN X3.here hx rfl (hb hby d17_32) rfl rfl k) ?_
  show Goes p e below s _ _ _ T3 (mkF m 33 #[.val (.ref a1), .val (.int (2 : Int32)), .val (.int (Int32.ofNat 2)), .val (.ref o1), .val (.int (2 : Int32))] [(.ref o1)])
  exact Goes.outR X3 hx hlk Bd.returns rfl rfl (hb hby d17_33) (by rw [e3]; exact ⟨o1, rfl, N_3, K_3, sz_o1, hA3.cast (own_tb2 f)⟩) (by decide) (by decide)
theorem own_cp2 (f g : Nat → Int32) (j : Nat) (hj : j < 2) : (updI (updI g (0) (((f (0)).toInt8.toInt32).toInt8.toInt32)) (1) (((f (1)).toInt8.toInt32).toInt8.toInt32)) j = own_bb (f j) := by
  obtain rfl | rfl : j = 0 ∨ j = 1 := by omega
  all_goals simp [updI, own_bb]
theorem ef_5n2 (m : MethodId) (a1 : Addr) (a3 : Addr) : entryFrame m #[(.ref a1), (.int (0 : Int32)), (.ref a3), (.int (0 : Int32)), (.int (Int32.ofNat 2))] 7 = mkF m 0 #[.val (.ref a1), .val (.int (0 : Int32)), .val (.ref a3), .val (.int (0 : Int32)), .val (.int (Int32.ofNat 2)), .unset, .unset] [] := by first | (simp [entryFrame, mkF, argsToLocals, Value.category]; done) | rfl
def Q5n2 (Z : State) (a1 : Addr) (a3 : Addr) (f : Nat → Int32) (g : Nat → Int32) (h0 : Heap) (n0 : Nat) (v : Option Value) (h : Heap) (L : List Loc) : Prop := ∃ r : Nat, v = some (.int (Int32.ofNat r)) ∧ Fr n0 L ∧ Keep h0 h [a3] ∧ ((r = 2 ∧ (∀ j, j < 2 → ¬ ((255 : Int32) < f j)) ∧ Ari Z h a3 .byte 2 (fun j => own_bb (f j))) ∨ (r < 2 ∧ (255 : Int32) < f r))
set_option maxRecDepth 65536 in
set_option maxHeartbeats 40000000 in
theorem rm5n2 (l : Launch) (Z : State) (a0 : Array Value) (hw : ∀ d ∈ tables_1, d.before a0 Z = true) (ws : List Jvm.Cond) (a1 : Addr) (a3 : Addr) (f : Nat → Int32) (g : Nat → Int32) (h0 : Heap) (n0 : Nat) (Z0 : n0 ≤ h0.size) (A_a1_0 : Ari Z h0 a1 .char 2 f) (A_a3_0 : Ari Z h0 a3 .byte 2 g) (ne_a1_a3 : a1 ≠ a3) (ge_a3 : n0 ≤ a3) :
    MetFree l (⟨"java/lang/StringUTF16", "compress", "([CI[BII)I"⟩ : MethodName) (head1 (Jvm.Cond.code (⟨"java/lang/StringUTF16", "compress", "([CI[BII)I"⟩ : MethodName) jdk_52_method_21_code 7 (some .int) :: ws) ({ frames := 0, cells := 0, slots := 0, locals := 0 } : Room)) (fun a U => a = #[(.ref a1), (.int (0 : Int32)), (.ref a3), (.int (0 : Int32)), (.int (Int32.ofNat 2))] ∧ Z.Warmed39 U.vm ∧ U.heap = h0) (fun _ _ _ _ _ => True) (fun _ U o U' => ∃ v L, o = .returned v ∧ Q5n2 Z a1 a3 f g h0 n0 v U'.heap L ∧ FrameEnd U o U' L ({ frames := 0, cells := 0, slots := 0, locals := 0 } : Room).cells ({ frames := 0, cells := 0, slots := 0, locals := 0 } : Room).slots) := by
  refine MetFree.of_bodySF (plainFor_of_name pn_5) hisR ?_
  intro p e s m args below meth c s₁ Bd hml0 hP hK
  obtain ⟨rfl, hZ, hh⟩ := hP
  have hx := Bd.exec
  have hby := Bd.bytes
  have hlk := Bd.notSynchronized
  have hml : c.maxLocals = 7 := hml0
  have hown : s.vm.findClass "java/lang/StringUTF16" = some m.cls := findClass_of_methodNamed Bd.named
  have hnm := (name_of_methodNamed Bd.named Bd.method).1
  have X0 : Stand p l e ({ frames := 0, cells := 0, slots := 0, locals := 0 } : Room) s m #[(.ref a1), (.int (0 : Int32)), (.ref a3), (.int (0 : Int32)), (.int (Int32.ofNat 2))] below meth c s₁ [] 0 0 := Stand.of_body Bd
  have e0 : s₁.heap = h0 := by rw [← hh, Bd.state]; rfl
  have N0 := Fr.nil n0
  have K0 : Keep h0 h0 [a3] := Keep.refl h0 _
  show Goes p e below s ({ frames := 0, cells := 0, slots := 0, locals := 0 } : Room).cells ({ frames := 0, cells := 0, slots := 0, locals := 0 } : Room).slots (Q5n2 Z a1 a3 f g h0 n0) s₁ (entryFrame m #[(.ref a1), (.int (0 : Int32)), (.ref a3), (.int (0 : Int32)), (.int (Int32.ofNat 2))] 7)
  refine Goes.step (fun t k => castTop (ef_5n2 m a1 a3) k) ?_
  refine Goes.step (fun _ k => XS.iconst X0.here hx rfl (hb hby d5_0) k) ?_
  refine Goes.step (fun _ k => XS.istore X0.here hx rfl (hb hby d5_1) rfl (l' := #[.val (.ref a1), .val (.int (0 : Int32)), .val (.ref a3), .val (.int (0 : Int32)), .val (.int (Int32.ofNat 2)), .val (.int (0 : Int32)), .unset]) rfl k) ?_
  show Goes p e below s _ _ _ s₁ (mkF m 3 #[.val (.ref a1), .val (.int (0 : Int32)), .val (.ref a3), .val (.int (0 : Int32)), .val (.int (Int32.ofNat 2)), .val (.int (0 : Int32)), .unset] [])
  refine Goes.step (fun _ k => XS.iload X0.here hx rfl (hb hby d5_3) rfl k) ?_
  refine Goes.step (fun _ k => XS.iload X0.here hx rfl (hb hby d5_5) rfl k) ?_
  show Goes p e below s _ _ _ s₁ (mkF m 7 #[.val (.ref a1), .val (.int (0 : Int32)), .val (.ref a3), .val (.int (0 : Int32)), .val (.int (Int32.ofNat 2)), .val (.int (0 : Int32)), .unset] [(.int (Int32.ofNat 2)), (.int (0 : Int32))])
  refine Goes.step (fun _ k => XS.icmpNo X0.here hx rfl (hb hby d5_7) rfl (tlt (by decide : (0 : Int32) < (Int32.ofNat 2))).2.1 k) ?_
  show Goes p e below s _ _ _ s₁ (mkF m 10 #[.val (.ref a1), .val (.int (0 : Int32)), .val (.ref a3), .val (.int (0 : Int32)), .val (.int (Int32.ofNat 2)), .val (.int (0 : Int32)), .unset] [])
  refine Goes.step (fun _ k => XS.aloadN X0.here hx rfl (hb hby d5_10) rfl rfl k) ?_
  refine Goes.step (fun _ k => XS.iloadN X0.here hx rfl (hb hby d5_11) rfl k) ?_
  show Goes p e below s _ _ _ s₁ (mkF m 12 #[.val (.ref a1), .val (.int (0 : Int32)), .val (.ref a3), .val (.int (0 : Int32)), .val (.int (Int32.ofNat 2)), .val (.int (0 : Int32)), .unset] [(.int (0 : Int32)), (.ref a1)])
  refine Goes.step (fun _ k => rdC X0 hx hZ e0 A_a1_0 (0) rfl (by decide) (g := (mkF m 12 #[.val (.ref a1), .val (.int (0 : Int32)), .val (.ref a3), .val (.int (0 : Int32)), .val (.int (Int32.ofNat 2)), .val (.int (0 : Int32)), .unset] [(.int (0 : Int32)), (.ref a1)])) rfl rfl (hb hby d5_12) _ k) ?_
  show Goes p e below s _ _ _ s₁ (mkF m 13 #[.val (.ref a1), .val (.int (0 : Int32)), .val (.ref a3), .val (.int (0 : Int32)), .val (.int (Int32.ofNat 2)), .val (.int (0 : Int32)), .unset] [(.int (f (0)))])
  refine Goes.step (fun _ k => XS.istore X0.here hx rfl (hb hby d5_13) rfl (l' := #[.val (.ref a1), .val (.int (0 : Int32)), .val (.ref a3), .val (.int (0 : Int32)), .val (.int (Int32.ofNat 2)), .val (.int (0 : Int32)), .val (.int (f (0)))]) rfl k) ?_
  refine Goes.step (fun _ k => XS.iload X0.here hx rfl (hb hby d5_15) rfl k) ?_
  show Goes p e below s _ _ _ s₁ (mkF m 17 #[.val (.ref a1), .val (.int (0 : Int32)), .val (.ref a3), .val (.int (0 : Int32)), .val (.int (Int32.ofNat 2)), .val (.int (0 : Int32)), .val (.int (f (0)))] [(.int (f (0)))])
  refine Goes.step (fun _ k => XS.sipush X0.here hx rfl (hb hby d5_17) k) ?_
  by_cases hc20 : (255 : Int32) < (f (0))
  · refine Goes.step (fun _ k => XS.icmpNo X0.here hx rfl (hb hby d5_20) rfl (tlt hc20).2.2.2 k) ?_
    show Goes p e below s _ _ _ s₁ (mkF m 23 #[.val (.ref a1), .val (.int (0 : Int32)), .val (.ref a3), .val (.int (0 : Int32)), .val (.int (Int32.ofNat 2)), .val (.int (0 : Int32)), .val (.int (f (0)))] [])
    refine Goes.step (fun _ k => XS.iload X0.here hx rfl (hb hby d5_23) rfl k) ?_
    show Goes p e below s _ _ _ s₁ (mkF m 25 #[.val (.ref a1), .val (.int (0 : Int32)), .val (.ref a3), .val (.int (0 : Int32)), .val (.int (Int32.ofNat 2)), .val (.int (0 : Int32)), .val (.int (f (0)))] [(.int (0 : Int32))])
    exact Goes.outI X0 hx hlk Bd.returns (hb hby d5_25) (by rw [e0]; exact ⟨0, rfl, N0, K0, Or.inr ⟨by decide, hc20⟩⟩) (by decide) (by decide)
  · refine Goes.step (fun _ k => XS.icmpYes X0.here hx rfl (pc0 := 20) (pc' := 26) rfl (hb hby d5_20) rfl (flt hc20).2.2.2 (by decide) (by decide) k) ?_
    show Goes p e below s _ _ _ s₁ (mkF m 26 #[.val (.ref a1), .val (.int (0 : Int32)), .val (.ref a3), .val (.int (0 : Int32)), .val (.int (Int32.ofNat 2)), .val (.int (0 : Int32)), .val (.int (f (0)))] [])
    refine Goes.step (fun _ k => XS.aloadN X0.here hx rfl (hb hby d5_26) rfl rfl k) ?_
    show Goes p e below s _ _ _ s₁ (mkF m 27 #[.val (.ref a1), .val (.int (0 : Int32)), .val (.ref a3), .val (.int (0 : Int32)), .val (.int (Int32.ofNat 2)), .val (.int (0 : Int32)), .val (.int (f (0)))] [(.ref a3)])
    refine Goes.step (fun _ k => XS.iloadN X0.here hx rfl (hb hby d5_27) rfl k) ?_
    refine Goes.step (fun _ k => XS.iload X0.here hx rfl (hb hby d5_28) rfl k) ?_
    show Goes p e below s _ _ _ s₁ (mkF m 30 #[.val (.ref a1), .val (.int (0 : Int32)), .val (.ref a3), .val (.int (0 : Int32)), .val (.int (Int32.ofNat 2)), .val (.int (0 : Int32)), .val (.int (f (0)))] [(.int (f (0))), (.int (0 : Int32)), (.ref a3)])
    refine Goes.step (fun _ k => XS.i2b X0.here hx rfl (hb hby d5_30) rfl k) ?_
    show Goes p e below s _ _ _ s₁ (mkF m 31 #[.val (.ref a1), .val (.int (0 : Int32)), .val (.ref a3), .val (.int (0 : Int32)), .val (.int (Int32.ofNat 2)), .val (.int (0 : Int32)), .val (.int (f (0)))] [(.int ((f (0)).toInt8.toInt32)), (.int (0 : Int32)), (.ref a3)])
    obtain ⟨T1, h1, X1, e1, W1, A1, st1⟩ := stoB X0 hx hZ e0 A_a3_0 (0) rfl (by decide) (g := (mkF m 31 #[.val (.ref a1), .val (.int (0 : Int32)), .val (.ref a3), .val (.int (0 : Int32)), .val (.int (Int32.ofNat 2)), .val (.int (0 : Int32)), .val (.int (f (0)))] [(.int ((f (0)).toInt8.toInt32)), (.int (0 : Int32)), (.ref a3)])) rfl rfl (hb hby d5_31)
    refine Goes.step st1 ?_
    have A_a1_1 := A_a1_0.other W1 ne_a1_a3
    have z_1 : n0 ≤ h1.size := by rw [W1.size]; exact Z0
    have K_1 : Keep h0 h1 [a3] := K0.wr W1 (Or.inl (List.mem_of_getElem? (i := 0) rfl))
    have N_1 := Fr.snoc X1 N0 ge_a3
    have A_a3_1 : Ari Z h1 a3 .byte (2) (updI g (0) (((f (0)).toInt8.toInt32).toInt8.toInt32)) := A1
    show Goes p e below s _ _ _ T1 (mkF m 32 #[.val (.ref a1), .val (.int (0 : Int32)), .val (.ref a3), .val (.int (0 : Int32)), .val (.int (Int32.ofNat 2)), .val (.int (0 : Int32)), .val (.int (f (0)))] [])
    refine Goes.step (fun _ k => XS.iinc X1.here hx rfl (hb hby d5_32) rfl (l' := #[.val (.ref a1), .val (.int (1 : Int32)), .val (.ref a3), .val (.int (0 : Int32)), .val (.int (Int32.ofNat 2)), .val (.int (0 : Int32)), .val (.int (f (0)))]) rfl k) ?_
    show Goes p e below s _ _ _ T1 (mkF m 35 #[.val (.ref a1), .val (.int (1 : Int32)), .val (.ref a3), .val (.int (0 : Int32)), .val (.int (Int32.ofNat 2)), .val (.int (0 : Int32)), .val (.int (f (0)))] [])
    refine Goes.step (fun _ k => XS.iinc X1.here hx rfl (hb hby d5_35) rfl (l' := #[.val (.ref a1), .val (.int (1 : Int32)), .val (.ref a3), .val (.int (1 : Int32)), .val (.int (Int32.ofNat 2)), .val (.int (0 : Int32)), .val (.int (f (0)))]) rfl k) ?_
    show Goes p e below s _ _ _ T1 (mkF m 38 #[.val (.ref a1), .val (.int (1 : Int32)), .val (.ref a3), .val (.int (1 : Int32)), .val (.int (Int32.ofNat 2)), .val (.int (0 : Int32)), .val (.int (f (0)))] [])
    refine Goes.step (fun _ k => XS.iinc X1.here hx rfl (hb hby d5_38) rfl (l' := #[.val (.ref a1), .val (.int (1 : Int32)), .val (.ref a3), .val (.int (1 : Int32)), .val (.int (Int32.ofNat 2)), .val (.int (1 : Int32)), .val (.int (f (0)))]) rfl k) ?_
    show Goes p e below s _ _ _ T1 (mkF m 41 #[.val (.ref a1), .val (.int (1 : Int32)), .val (.ref a3), .val (.int (1 : Int32)), .val (.int (Int32.ofNat 2)), .val (.int (1 : Int32)), .val (.int (f (0)))] [])
    refine Goes.step (fun _ k => XS.goto X1.here hx rfl (pc0 := 41) (pc' := 3) rfl (hb hby d5_41) (by decide) (by decide) k) ?_
    refine Goes.step (fun _ k => XS.iload X1.here hx rfl (hb hby d5_3) rfl k) ?_
    show Goes p e below s _ _ _ T1 (mkF m 5 #[.val (.ref a1), .val (.int (1 : Int32)), .val (.ref a3), .val (.int (1 : Int32)), .val (.int (Int32.ofNat 2)), .val (.int (1 : Int32)), .val (.int (f (0)))] [(.int (1 : Int32))])
    refine Goes.step (fun _ k => XS.iload X1.here hx rfl (hb hby d5_5) rfl k) ?_
    refine Goes.step (fun _ k => XS.icmpNo X1.here hx rfl (hb hby d5_7) rfl (tlt (by decide : (1 : Int32) < (Int32.ofNat 2))).2.1 k) ?_
    show Goes p e below s _ _ _ T1 (mkF m 10 #[.val (.ref a1), .val (.int (1 : Int32)), .val (.ref a3), .val (.int (1 : Int32)), .val (.int (Int32.ofNat 2)), .val (.int (1 : Int32)), .val (.int (f (0)))] [])
    refine Goes.step (fun _ k => XS.aloadN X1.here hx rfl (hb hby d5_10) rfl rfl k) ?_
    refine Goes.step (fun _ k => XS.iloadN X1.here hx rfl (hb hby d5_11) rfl k) ?_
    show Goes p e below s _ _ _ T1 (mkF m 12 #[.val (.ref a1), .val (.int (1 : Int32)), .val (.ref a3), .val (.int (1 : Int32)), .val (.int (Int32.ofNat 2)), .val (.int (1 : Int32)), .val (.int (f (0)))] [(.int (1 : Int32)), (.ref a1)])
    refine Goes.step (fun _ k => rdC X1 hx hZ e1 A_a1_1 (1) rfl (by decide) (g := (mkF m 12 #[.val (.ref a1), .val (.int (1 : Int32)), .val (.ref a3), .val (.int (1 : Int32)), .val (.int (Int32.ofNat 2)), .val (.int (1 : Int32)), .val (.int (f (0)))] [(.int (1 : Int32)), (.ref a1)])) rfl rfl (hb hby d5_12) _ k) ?_
    show Goes p e below s _ _ _ T1 (mkF m 13 #[.val (.ref a1), .val (.int (1 : Int32)), .val (.ref a3), .val (.int (1 : Int32)), .val (.int (Int32.ofNat 2)), .val (.int (1 : Int32)), .val (.int (f (0)))] [(.int (f (1)))])
    refine Goes.step (fun _ k => XS.istore X1.here hx rfl (hb hby d5_13) rfl (l' := #[.val (.ref a1), .val (.int (1 : Int32)), .val (.ref a3), .val (.int (1 : Int32)), .val (.int (Int32.ofNat 2)), .val (.int (1 : Int32)), .val (.int (f (1)))]) rfl k) ?_
    refine Goes.step (fun _ k => XS.iload X1.here hx rfl (hb hby d5_15) rfl k) ?_
    show Goes p e below s _ _ _ T1 (mkF m 17 #[.val (.ref a1), .val (.int (1 : Int32)), .val (.ref a3), .val (.int (1 : Int32)), .val (.int (Int32.ofNat 2)), .val (.int (1 : Int32)), .val (.int (f (1)))] [(.int (f (1)))])
    refine Goes.step (fun _ k => XS.sipush X1.here hx rfl (hb hby d5_17) k) ?_
    by_cases hc20_1 : (255 : Int32) < (f (1))
    · refine Goes.step (fun _ k => XS.icmpNo X1.here hx rfl (hb hby d5_20) rfl (tlt hc20_1).2.2.2 k) ?_
      show Goes p e below s _ _ _ T1 (mkF m 23 #[.val (.ref a1), .val (.int (1 : Int32)), .val (.ref a3), .val (.int (1 : Int32)), .val (.int (Int32.ofNat 2)), .val (.int (1 : Int32)), .val (.int (f (1)))] [])
      refine Goes.step (fun _ k => XS.iload X1.here hx rfl (hb hby d5_23) rfl k) ?_
      show Goes p e below s _ _ _ T1 (mkF m 25 #[.val (.ref a1), .val (.int (1 : Int32)), .val (.ref a3), .val (.int (1 : Int32)), .val (.int (Int32.ofNat 2)), .val (.int (1 : Int32)), .val (.int (f (1)))] [(.int (1 : Int32))])
      exact Goes.outI X1 hx hlk Bd.returns (hb hby d5_25) (by rw [e1]; exact ⟨1, rfl, N_1, K_1, Or.inr ⟨by decide, hc20_1⟩⟩) (by decide) (by decide)
    · refine Goes.step (fun _ k => XS.icmpYes X1.here hx rfl (pc0 := 20) (pc' := 26) rfl (hb hby d5_20) rfl (flt hc20_1).2.2.2 (by decide) (by decide) k) ?_
      show Goes p e below s _ _ _ T1 (mkF m 26 #[.val (.ref a1), .val (.int (1 : Int32)), .val (.ref a3), .val (.int (1 : Int32)), .val (.int (Int32.ofNat 2)), .val (.int (1 : Int32)), .val (.int (f (1)))] [])
      refine Goes.step (fun _ k => XS.aloadN X1.here hx rfl (hb hby d5_26) rfl rfl k) ?_
      show Goes p e below s _ _ _ T1 (mkF m 27 #[.val (.ref a1), .val (.int (1 : Int32)), .val (.ref a3), .val (.int (1 : Int32)), .val (.int (Int32.ofNat 2)), .val (.int (1 : Int32)), .val (.int (f (1)))] [(.ref a3)])
      refine Goes.step (fun _ k => XS.iloadN X1.here hx rfl (hb hby d5_27) rfl k) ?_
      refine Goes.step (fun _ k => XS.iload X1.here hx rfl (hb hby d5_28) rfl k) ?_
      show Goes p e below s _ _ _ T1 (mkF m 30 #[.val (.ref a1), .val (.int (1 : Int32)), .val (.ref a3), .val (.int (1 : Int32)), .val (.int (Int32.ofNat 2)), .val (.int (1 : Int32)), .val (.int (f (1)))] [(.int (f (1))), (.int (1 : Int32)), (.ref a3)])
      refine Goes.step (fun _ k => XS.i2b X1.here hx rfl (hb hby d5_30) rfl k) ?_
      show Goes p e below s _ _ _ T1 (mkF m 31 #[.val (.ref a1), .val (.int (1 : Int32)), .val (.ref a3), .val (.int (1 : Int32)), .val (.int (Int32.ofNat 2)), .val (.int (1 : Int32)), .val (.int (f (1)))] [(.int ((f (1)).toInt8.toInt32)), (.int (1 : Int32)), (.ref a3)])
      obtain ⟨T2, h2, X2, e2, W2, A2, st2⟩ := stoB X1 hx hZ e1 A_a3_1 (1) rfl (by decide) (g := (mkF m 31 #[.val (.ref a1), .val (.int (1 : Int32)), .val (.ref a3), .val (.int (1 : Int32)), .val (.int (Int32.ofNat 2)), .val (.int (1 : Int32)), .val (.int (f (1)))] [(.int ((f (1)).toInt8.toInt32)), (.int (1 : Int32)), (.ref a3)])) rfl rfl (hb hby d5_31)
      refine Goes.step st2 ?_
      have A_a1_2 := A_a1_1.other W2 ne_a1_a3
      have z_2 : n0 ≤ h2.size := by rw [W2.size]; exact z_1
      have K_2 : Keep h0 h2 [a3] := K_1.wr W2 (Or.inl (List.mem_of_getElem? (i := 0) rfl))
      have N_2 := Fr.snoc X2 N_1 ge_a3
      have A_a3_2 : Ari Z h2 a3 .byte (2) (updI (updI g (0) (((f (0)).toInt8.toInt32).toInt8.toInt32)) (1) (((f (1)).toInt8.toInt32).toInt8.toInt32)) := A2
      show Goes p e below s _ _ _ T2 (mkF m 32 #[.val (.ref a1), .val (.int (1 : Int32)), .val (.ref a3), .val (.int (1 : Int32)), .val (.int (Int32.ofNat 2)), .val (.int (1 : Int32)), .val (.int (f (1)))] [])
      refine Goes.step (fun _ k => XS.iinc X2.here hx rfl (hb hby d5_32) rfl (l' := #[.val (.ref a1), .val (.int (2 : Int32)), .val (.ref a3), .val (.int (1 : Int32)), .val (.int (Int32.ofNat 2)), .val (.int (1 : Int32)), .val (.int (f (1)))]) rfl k) ?_
      show Goes p e below s _ _ _ T2 (mkF m 35 #[.val (.ref a1), .val (.int (2 : Int32)), .val (.ref a3), .val (.int (1 : Int32)), .val (.int (Int32.ofNat 2)), .val (.int (1 : Int32)), .val (.int (f (1)))] [])
      refine Goes.step (fun _ k => XS.iinc X2.here hx rfl (hb hby d5_35) rfl (l' := #[.val (.ref a1), .val (.int (2 : Int32)), .val (.ref a3), .val (.int (2 : Int32)), .val (.int (Int32.ofNat 2)), .val (.int (1 : Int32)), .val (.int (f (1)))]) rfl k) ?_
      show Goes p e below s _ _ _ T2 (mkF m 38 #[.val (.ref a1), .val (.int (2 : Int32)), .val (.ref a3), .val (.int (2 : Int32)), .val (.int (Int32.ofNat 2)), .val (.int (1 : Int32)), .val (.int (f (1)))] [])
      refine Goes.step (fun _ k => XS.iinc X2.here hx rfl (hb hby d5_38) rfl (l' := #[.val (.ref a1), .val (.int (2 : Int32)), .val (.ref a3), .val (.int (2 : Int32)), .val (.int (Int32.ofNat 2)), .val (.int (2 : Int32)), .val (.int (f (1)))]) rfl k) ?_
      show Goes p e below s _ _ _ T2 (mkF m 41 #[.val (.ref a1), .val (.int (2 : Int32)), .val (.ref a3), .val (.int (2 : Int32)), .val (.int (Int32.ofNat 2)), .val (.int (2 : Int32)), .val (.int (f (1)))] [])
      refine Goes.step (fun _ k => XS.goto X2.here hx rfl (pc0 := 41) (pc' := 3) rfl (hb hby d5_41) (by decide) (by decide) k) ?_
      refine Goes.step (fun _ k => XS.iload X2.here hx rfl (hb hby d5_3) rfl k) ?_
      show Goes p e below s _ _ _ T2 (mkF m 5 #[.val (.ref a1), .val (.int (2 : Int32)), .val (.ref a3), .val (.int (2 : Int32)), .val (.int (Int32.ofNat 2)), .val (.int (2 : Int32)), .val (.int (f (1)))] [(.int (2 : Int32))])
      refine Goes.step (fun _ k => XS.iload X2.here hx rfl (hb hby d5_5) rfl k) ?_
      refine Goes.step (fun _ k => XS.icmpYes X2.here hx rfl (pc0 := 7) (pc' := 44) rfl (hb hby d5_7) rfl (flt (by decide : ¬ ((2 : Int32) < (Int32.ofNat 2)))).2.1 (by decide) (by decide) k) ?_
      show Goes p e below s _ _ _ T2 (mkF m 44 #[.val (.ref a1), .val (.int (2 : Int32)), .val (.ref a3), .val (.int (2 : Int32)), .val (.int (Int32.ofNat 2)), .val (.int (2 : Int32)), .val (.int (f (1)))] [])
      refine Goes.step (fun _ k => XS.iload X2.here hx rfl (hb hby d5_44) rfl k) ?_
      show Goes p e below s _ _ _ T2 (mkF m 46 #[.val (.ref a1), .val (.int (2 : Int32)), .val (.ref a3), .val (.int (2 : Int32)), .val (.int (Int32.ofNat 2)), .val (.int (2 : Int32)), .val (.int (f (1)))] [(.int (Int32.ofNat 2))])
      have hall : ∀ j, j < 2 → ¬ ((255 : Int32) < f j) := fun j hj => by
        obtain rfl | rfl : j = 0 ∨ j = 1 := by omega
        · exact hc20
        · exact hc20_1
      exact Goes.outI X2 hx hlk Bd.returns (hb hby d5_46) (by rw [e2]; exact ⟨2, rfl, N_2, K_2, Or.inl ⟨rfl, hall, A_a3_2.cast (own_cp2 f g)⟩⟩) (by decide) (by decide)
theorem pd_4n2_0 : parseMethodDescriptor "([CI[BII)I" = some ⟨[(.array .char), .int, (.array .byte), .int, .int], some .int⟩ := by decide +kernel
theorem pd_4n2_1 : parseMethodDescriptor "([CII)[B" = some ⟨[(.array .char), .int, .int], some (.array .byte)⟩ := by decide +kernel
theorem pd_4n2_2 : parseMethodDescriptor "([BI)C" = some ⟨[(.array .byte), .int], some .char⟩ := by decide +kernel
theorem ef_4n2 (m : MethodId) (a1 : Addr) : entryFrame m #[(.ref a1), (.int (0 : Int32)), (.int (Int32.ofNat 2))] 6 = mkF m 0 #[.val (.ref a1), .val (.int (0 : Int32)), .val (.int (Int32.ofNat 2)), .unset, .unset, .unset] [] := by first | (simp [entryFrame, mkF, argsToLocals, Value.category]; done) | rfl
def Q4n2 (Z : State) (a1 : Addr) (f : Nat → Int32) (h0 : Heap) (n0 : Nat) (v : Option Value) (h : Heap) (L : List Loc) : Prop := ∃ o, v = some (.ref o) ∧ Fr n0 L ∧ Keep h0 h [] ∧ h0.size ≤ o ∧ ((Ari Z h o .byte 2 (fun j => own_bb (f j)) ∧ ∀ j, j < 2 → ¬ ((255 : Int32) < f j)) ∨ Ari Z h o .byte (2 * 2) (own_u f))
set_option maxRecDepth 65536 in
set_option maxHeartbeats 40000000 in
theorem rm4n2 (l : Launch) (Z : State) (a0 : Array Value) (hw : ∀ d ∈ tables_1, d.before a0 Z = true) (ws : List Jvm.Cond) (a1 : Addr) (f : Nat → Int32) (h0 : Heap) (n0 : Nat) (Z0 : n0 ≤ h0.size) (OL : Old Z n0 h0) (O5 : Sta Z Z.heap "java/lang/StringUTF16" "$assertionsDisabled" "Z" (.int (1 : Int32))) (O6 : Sta Z Z.heap "java/lang/StringUTF16" "HI_BYTE_SHIFT" "I" (.int (0 : Int32))) (O7 : Sta Z Z.heap "java/lang/StringUTF16" "LO_BYTE_SHIFT" "I" (.int (8 : Int32))) (A_a1_0 : Ari Z h0 a1 .char 2 f) (rg : own_rg 2 f) :
    MetFree l (⟨"java/lang/StringUTF16", "compress", "([CII)[B"⟩ : MethodName) (head1 (Jvm.Cond.code (⟨"java/lang/StringUTF16", "compress", "([CII)[B"⟩ : MethodName) jdk_52_method_16_code 6 (some (.array .byte)) :: ws) ({ frames := 3, cells := 2, slots := 10, locals := 40 } : Room)) (fun a U => a = #[(.ref a1), (.int (0 : Int32)), (.int (Int32.ofNat 2))] ∧ Z.Warmed39 U.vm ∧ U.heap = h0) (fun _ _ _ _ _ => True) (fun _ U o U' => ∃ v L, o = .returned v ∧ Q4n2 Z a1 f h0 n0 v U'.heap L ∧ FrameEnd U o U' L ({ frames := 3, cells := 2, slots := 10, locals := 40 } : Room).cells ({ frames := 3, cells := 2, slots := 10, locals := 40 } : Room).slots) := by
  refine MetFree.of_bodySF (plainFor_of_name pn_4) hisR ?_
  intro p e s m args below meth c s₁ Bd hml0 hP hK
  obtain ⟨rfl, hZ, hh⟩ := hP
  have hx := Bd.exec
  have hby := Bd.bytes
  have hlk := Bd.notSynchronized
  have hml : c.maxLocals = 6 := hml0
  have hown : s.vm.findClass "java/lang/StringUTF16" = some m.cls := findClass_of_methodNamed Bd.named
  have hnm := (name_of_methodNamed Bd.named Bd.method).1
  have X0 : Stand p l e ({ frames := 3, cells := 2, slots := 10, locals := 40 } : Room) s m #[(.ref a1), (.int (0 : Int32)), (.int (Int32.ofNat 2))] below meth c s₁ [] 0 0 := Stand.of_body Bd
  have e0 : s₁.heap = h0 := by rw [← hh, Bd.state]; rfl
  have N0 := Fr.nil n0
  have K0 : Keep h0 h0 [] := Keep.refl h0 _
  show Goes p e below s ({ frames := 3, cells := 2, slots := 10, locals := 40 } : Room).cells ({ frames := 3, cells := 2, slots := 10, locals := 40 } : Room).slots (Q4n2 Z a1 f h0 n0) s₁ (entryFrame m #[(.ref a1), (.int (0 : Int32)), (.int (Int32.ofNat 2))] 6)
  refine Goes.step (fun t k => castTop (ef_4n2 m a1) k) ?_
  refine Goes.step (fun _ k => XS.iloadN X0.here hx rfl (hb hby d4_0) rfl k) ?_
  obtain ⟨T1, h1, X1, e1, E1, A1, st1⟩ := newI X0 hx hZ (hw _ (List.mem_of_getElem? (i := 21) rfl)) e0 (g := (mkF m 1 #[.val (.ref a1), .val (.int (0 : Int32)), .val (.int (Int32.ofNat 2)), .unset, .unset, .unset] [(.int (Int32.ofNat 2))])) rfl (hb hby d4_1) rfl (N := 2) rfl (cap := 2) (by decide) (by decide) (by decide) (by decide) rfl (by decide)
  obtain ⟨b1, g_1⟩ : ∃ z, z = h0.size := ⟨_, rfl⟩
  rw [← g_1] at A1 st1
  refine Goes.step st1 ?_
  have ne_a1_b1 : a1 ≠ b1 := Nat.ne_of_lt (by rw [g_1]; exact A_a1_0.lt)
  have ge_b1 : n0 ≤ b1 := by rw [g_1]; exact Z0
  have sz_b1 : h0.size ≤ b1 := by rw [g_1]; exact K0.1
  have A_a1_1 := A_a1_0.ext E1
  have z_1 : n0 ≤ h1.size := Nat.le_trans Z0 E1.1
  have K_1 : Keep h0 h1 [] := K0.ext E1
  have A_b1_1 : Ari Z h1 b1 .byte (2) (fun _ => 0) := A1
  show Goes p e below s _ _ _ T1 (mkF m 3 #[.val (.ref a1), .val (.int (0 : Int32)), .val (.int (Int32.ofNat 2)), .unset, .unset, .unset] [(.ref b1)])
  refine Goes.step (fun _ k => XS.astoreN X1.here hx rfl (hb hby d4_3) rfl rfl (l' := #[.val (.ref a1), .val (.int (0 : Int32)), .val (.int (Int32.ofNat 2)), .val (.ref b1), .unset, .unset]) rfl k) ?_
  refine Goes.step (fun _ k => XS.aloadN X1.here hx rfl (hb hby d4_4) rfl rfl k) ?_
  show Goes p e below s _ _ _ T1 (mkF m 5 #[.val (.ref a1), .val (.int (0 : Int32)), .val (.int (Int32.ofNat 2)), .val (.ref b1), .unset, .unset] [(.ref a1)])
  refine Goes.step (fun _ k => XS.iloadN X1.here hx rfl (hb hby d4_5) rfl k) ?_
  refine Goes.step (fun _ k => XS.aloadN X1.here hx rfl (hb hby d4_6) rfl rfl k) ?_
  show Goes p e below s _ _ _ T1 (mkF m 7 #[.val (.ref a1), .val (.int (0 : Int32)), .val (.int (Int32.ofNat 2)), .val (.ref b1), .unset, .unset] [(.ref b1), (.int (0 : Int32)), (.ref a1)])
  refine Goes.step (fun _ k => XS.iconst X1.here hx rfl (hb hby d4_7) k) ?_
  refine Goes.step (fun _ k => XS.iloadN X1.here hx rfl (hb hby d4_8) rfl k) ?_
  show Goes p e below s _ _ _ T1 (mkF m 9 #[.val (.ref a1), .val (.int (0 : Int32)), .val (.int (Int32.ofNat 2)), .val (.ref b1), .unset, .unset] [(.int (Int32.ofNat 2)), (.int (0 : Int32)), (.ref b1), (.int (0 : Int32)), (.ref a1)])
  obtain ⟨v2, T2, h2, L2, X2, e2, Q2, st2⟩ := callX X1 hx hZ (y := (⟨"java/lang/StringUTF16", "compress", "([CI[BII)I"⟩ : MethodName)) hown (hw _ (List.mem_of_getElem? (i := 22) rfl)) (hw _ (List.mem_of_getElem? (i := 23) rfl)) (hw _ (List.mem_of_getElem? (i := 19) rfl)) (hw _ (List.mem_of_getElem? (i := 24) rfl)) (by decide) (W := 0) (argsL := [(.ref a1), (.int (0 : Int32)), (.ref b1), (.int (0 : Int32)), (.int (Int32.ofNat 2))]) (rest := []) (rm5n2 l Z a0 hw [] a1 b1 f (fun _ => 0) h1 n0 z_1 A_a1_1 A_b1_1 ne_a1_b1 ge_b1) (by decide) (by decide) (by decide) (by decide) e1 (g := (mkF m 9 #[.val (.ref a1), .val (.int (0 : Int32)), .val (.int (Int32.ofNat 2)), .val (.ref b1), .unset, .unset] [(.int (Int32.ofNat 2)), (.int (0 : Int32)), (.ref b1), (.int (0 : Int32)), (.ref a1)])) rfl (by rw [hml]; rfl) (lenOf pd_4n2_0 rfl) rfl (by show 2 * 0 + _ ≤ _; exact Nat.le_of_eq rfl) (hb hby d4_9)
  obtain ⟨r2, rfl, NQ2, KQ2, hR2⟩ := Q2
  refine Goes.step st2 ?_
  have A_a1_2 := A_a1_1.keep KQ2 (ninS ne_a1_b1 nin0)
  have z_2 : n0 ≤ h2.size := Nat.le_trans z_1 KQ2.1
  have K_2 : Keep h0 h2 [] := Keep.trans K_1 KQ2 (allS (Or.inr sz_b1) all0)
  have N_2 := Fr.app N0 NQ2
  show Goes p e below s _ _ _ T2 (mkF m 12 #[.val (.ref a1), .val (.int (0 : Int32)), .val (.int (Int32.ofNat 2)), .val (.ref b1), .unset, .unset] [(.int (Int32.ofNat r2))])
  rcases hR2 with ⟨hr, hall, hAr⟩ | ⟨hlt, hgt⟩
  · subst hr
    refine Goes.step (fun _ k => XS.istore X2.here hx rfl (hb hby d4_12) rfl (l' := #[.val (.ref a1), .val (.int (0 : Int32)), .val (.int (Int32.ofNat 2)), .val (.ref b1), .val (.int (Int32.ofNat 2)), .unset]) rfl k) ?_
    refine Goes.step (fun _ k => XS.iload X2.here hx rfl (hb hby d4_14) rfl k) ?_
    show Goes p e below s _ _ _ T2 (mkF m 16 #[.val (.ref a1), .val (.int (0 : Int32)), .val (.int (Int32.ofNat 2)), .val (.ref b1), .val (.int (Int32.ofNat 2)), .unset] [(.int (Int32.ofNat 2))])
    refine Goes.step (fun _ k => XS.iloadN X2.here hx rfl (hb hby d4_16) rfl k) ?_
    refine Goes.step (fun _ k => XS.icmpYes X2.here hx rfl (pc0 := 17) (pc' := 57) rfl (hb hby d4_17) rfl (teq (by decide : (Int32.ofNat 2) = (Int32.ofNat 2))).1 (by decide) (by decide) k) ?_
    show Goes p e below s _ _ _ T2 (mkF m 57 #[.val (.ref a1), .val (.int (0 : Int32)), .val (.int (Int32.ofNat 2)), .val (.ref b1), .val (.int (Int32.ofNat 2)), .unset] [])
    refine Goes.step (fun _ k => XS.aloadN X2.here hx rfl (hb hby d4_57) rfl rfl k) ?_
    show Goes p e below s _ _ _ T2 (mkF m 58 #[.val (.ref a1), .val (.int (0 : Int32)), .val (.int (Int32.ofNat 2)), .val (.ref b1), .val (.int (Int32.ofNat 2)), .unset] [(.ref b1)])
    exact Goes.outR X2 hx hlk Bd.returns rfl rfl (hb hby d4_58) (by rw [e2]; exact ⟨b1, rfl, N_2, K_2, sz_b1, Or.inl ⟨hAr, hall⟩⟩) (by decide) (by decide)
  · have hlt0 := hlt
    refine Goes.step (fun _ k => XS.istore X2.here hx rfl (hb hby d4_12) rfl (l' := #[.val (.ref a1), .val (.int (0 : Int32)), .val (.int (Int32.ofNat 2)), .val (.ref b1), .val (.int (Int32.ofNat r2)), .unset]) rfl k) ?_
    refine Goes.step (fun _ k => XS.iload X2.here hx rfl (hb hby d4_14) rfl k) ?_
    show Goes p e below s _ _ _ T2 (mkF m 16 #[.val (.ref a1), .val (.int (0 : Int32)), .val (.int (Int32.ofNat 2)), .val (.ref b1), .val (.int (Int32.ofNat r2)), .unset] [(.int (Int32.ofNat r2))])
    refine Goes.step (fun _ k => XS.iloadN X2.here hx rfl (hb hby d4_16) rfl k) ?_
    refine Goes.step (fun _ k => XS.icmpNo X2.here hx rfl (hb hby d4_17) rfl (feq (own_neq hlt (by decide) rfl)).1 k) ?_
    show Goes p e below s _ _ _ T2 (mkF m 20 #[.val (.ref a1), .val (.int (0 : Int32)), .val (.int (Int32.ofNat 2)), .val (.ref b1), .val (.int (Int32.ofNat r2)), .unset] [])
    refine Goes.step (fun _ k => XS.aloadN X2.here hx rfl (hb hby d4_20) rfl rfl k) ?_
    refine Goes.step (fun _ k => XS.iloadN X2.here hx rfl (hb hby d4_21) rfl k) ?_
    show Goes p e below s _ _ _ T2 (mkF m 22 #[.val (.ref a1), .val (.int (0 : Int32)), .val (.int (Int32.ofNat 2)), .val (.ref b1), .val (.int (Int32.ofNat r2)), .unset] [(.int (0 : Int32)), (.ref a1)])
    refine Goes.step (fun _ k => XS.iloadN X2.here hx rfl (hb hby d4_22) rfl k) ?_
    obtain ⟨v3, T3, h3, L3, X3, e3, Q3, st3⟩ := callX X2 hx hZ (y := (⟨"java/lang/StringUTF16", "toBytes", "([CII)[B"⟩ : MethodName)) hown (hw _ (List.mem_of_getElem? (i := 75) rfl)) (hw _ (List.mem_of_getElem? (i := 76) rfl)) (hw _ (List.mem_of_getElem? (i := 19) rfl)) (hw _ (List.mem_of_getElem? (i := 77) rfl)) (by decide) (W := 0) (argsL := [(.ref a1), (.int (0 : Int32)), (.int (Int32.ofNat 2))]) (rest := []) (rm17n2 l Z a0 hw [] a1 f h2 n0 z_2 (OL.keep K_2 all0) O5 O6 O7 A_a1_2) (by decide) (by decide) (by decide) (by decide) e2 (g := (mkF m 23 #[.val (.ref a1), .val (.int (0 : Int32)), .val (.int (Int32.ofNat 2)), .val (.ref b1), .val (.int (Int32.ofNat r2)), .unset] [(.int (Int32.ofNat 2)), (.int (0 : Int32)), (.ref a1)])) rfl (by rw [hml]; rfl) (lenOf pd_4n2_1 rfl) rfl (by show 2 * 0 + _ ≤ _; exact Nat.le_of_eq rfl) (hb hby d4_23)
    obtain ⟨o3, rfl, NQ3, KQ3, so3, hA3⟩ := Q3
    refine Goes.step st3 ?_
    have A_a1_3 := A_a1_2.keep KQ3 nin0
    have z_3 : n0 ≤ h3.size := Nat.le_trans z_2 KQ3.1
    have K_3 : Keep h0 h3 [] := Keep.trans K_2 KQ3 all0
    have N_3 := Fr.app N_2 NQ3
    have ne_o3_a1 : o3 ≠ a1 := Nat.ne_of_gt (Nat.lt_of_lt_of_le A_a1_2.lt so3)
    have ge_o3 : n0 ≤ o3 := Nat.le_trans z_2 so3
    have sz_o3 : h0.size ≤ o3 := Nat.le_trans K_2.1 so3
    show Goes p e below s _ _ _ T3 (mkF m 26 #[.val (.ref a1), .val (.int (0 : Int32)), .val (.int (Int32.ofNat 2)), .val (.ref b1), .val (.int (Int32.ofNat r2)), .unset] [(.ref o3)])
    refine Goes.step (fun _ k => XS.astore X3.here hx rfl (hb hby d4_26) rfl rfl (l' := #[.val (.ref a1), .val (.int (0 : Int32)), .val (.int (Int32.ofNat 2)), .val (.ref b1), .val (.int (Int32.ofNat r2)), .val (.ref o3)]) rfl k) ?_
    refine Goes.step (fun _ k => XS.aload X3.here hx rfl (hb hby d4_28) rfl rfl k) ?_
    show Goes p e below s _ _ _ T3 (mkF m 30 #[.val (.ref a1), .val (.int (0 : Int32)), .val (.int (Int32.ofNat 2)), .val (.ref b1), .val (.int (Int32.ofNat r2)), .val (.ref o3)] [(.ref o3)])
    refine Goes.step (fun _ k => XS.iload X3.here hx rfl (hb hby d4_30) rfl k) ?_
    obtain ⟨T4, X4, e4, st4⟩ := own_pure (r := some (.int (own_g1 ((own_u f) (2 * r2)) ((own_u f) (2 * r2 + 1))))) (fun _ _ _ q => q) (callX X3 hx hZ (y := (⟨"java/lang/StringUTF16", "getChar", "([BI)C"⟩ : MethodName)) hown (hw _ (List.mem_of_getElem? (i := 91) rfl)) (hw _ (List.mem_of_getElem? (i := 92) rfl)) (hw _ (List.mem_of_getElem? (i := 19) rfl)) (hw _ (List.mem_of_getElem? (i := 93) rfl)) (by decide) (W := 0) (argsL := [(.ref o3), (.int (Int32.ofNat r2))]) (rest := []) (rm21 l Z a0 hw [] o3 (Int32.ofNat r2) r2 2 (own_u f) h3 n0 z_3 (OL.keep K_3 all0) O5 O6 O7 hA3 rfl hlt (by decide)) (by decide) (by decide) (by decide) (by decide) e3 (g := (mkF m 32 #[.val (.ref a1), .val (.int (0 : Int32)), .val (.int (Int32.ofNat 2)), .val (.ref b1), .val (.int (Int32.ofNat r2)), .val (.ref o3)] [(.int (Int32.ofNat r2)), (.ref o3)])) rfl (by rw [hml]; rfl) (lenOf pd_4n2_2 rfl) rfl (by show 2 * 0 + _ ≤ _; exact Nat.le_of_eq rfl) (hb hby d4_32))
    refine Goes.step st4 ?_
    show Goes p e below s _ _ _ T4 (mkF m 35 #[.val (.ref a1), .val (.int (0 : Int32)), .val (.int (Int32.ofNat 2)), .val (.ref b1), .val (.int (Int32.ofNat r2)), .val (.ref o3)] [(.int (own_g1 ((own_u f) (2 * r2)) ((own_u f) (2 * r2 + 1))))])
    refine Goes.step (fun _ k => XS.sipush X4.here hx rfl (hb hby d4_35) k) ?_
    refine Goes.step (fun _ k => XS.icmpYes X4.here hx rfl (pc0 := 38) (pc' := 54) rfl (hb hby d4_38) rfl (tlt (own_gt rg hlt hgt)).2.2.1 (by decide) (by decide) k) ?_
    show Goes p e below s _ _ _ T4 (mkF m 54 #[.val (.ref a1), .val (.int (0 : Int32)), .val (.int (Int32.ofNat 2)), .val (.ref b1), .val (.int (Int32.ofNat r2)), .val (.ref o3)] [])
    refine Goes.step (fun _ k => XS.aload X4.here hx rfl (hb hby d4_54) rfl rfl k) ?_
    show Goes p e below s _ _ _ T4 (mkF m 56 #[.val (.ref a1), .val (.int (0 : Int32)), .val (.int (Int32.ofNat 2)), .val (.ref b1), .val (.int (Int32.ofNat r2)), .val (.ref o3)] [(.ref o3)])
    exact Goes.outR X4 hx hlk Bd.returns rfl rfl (hb hby d4_56) (by rw [e4]; exact ⟨o3, rfl, N_3, K_3, sz_o3, Or.inr hA3⟩) (by decide) (by decide)
theorem own_tb3 (f : Nat → Int32) (j : Nat) (hj : j < 2 * 3) : (updI (updI (updI (updI (updI (updI (fun _ => 0) (2 * 0) (own_bb ((f (0)) >>> ((0 : Int32) &&& 31)))) (2 * 0 + 1) (own_bb ((f (0)) >>> ((8 : Int32) &&& 31)))) (2 * 1) (own_bb ((f (1)) >>> ((0 : Int32) &&& 31)))) (2 * 1 + 1) (own_bb ((f (1)) >>> ((8 : Int32) &&& 31)))) (2 * 2) (own_bb ((f (2)) >>> ((0 : Int32) &&& 31)))) (2 * 2 + 1) (own_bb ((f (2)) >>> ((8 : Int32) &&& 31)))) j = own_u f j := by
  obtain rfl | rfl | rfl | rfl | rfl | rfl : j = 0 ∨ j = 1 ∨ j = 2 ∨ j = 3 ∨ j = 4 ∨ j = 5 := by omega
  all_goals simp [updI, own_u]
theorem pd_17n3_0 : parseMethodDescriptor "(I)[B" = some ⟨[.int], some (.array .byte)⟩ := by decide +kernel
theorem pd_17n3_1 : parseMethodDescriptor "([BII)V" = some ⟨[(.array .byte), .int, .int], none⟩ := by decide +kernel
theorem ef_17n3 (m : MethodId) (a1 : Addr) : entryFrame m #[(.ref a1), (.int (0 : Int32)), (.int (Int32.ofNat 3))] 5 = mkF m 0 #[.val (.ref a1), .val (.int (0 : Int32)), .val (.int (Int32.ofNat 3)), .unset, .unset] [] := by first | (simp [entryFrame, mkF, argsToLocals, Value.category]; done) | rfl
def Q17n3 (Z : State) (a1 : Addr) (f : Nat → Int32) (h0 : Heap) (n0 : Nat) (v : Option Value) (h : Heap) (L : List Loc) : Prop := ∃ o, v = some (.ref o) ∧ Fr n0 L ∧ Keep h0 h [] ∧ h0.size ≤ o ∧ Ari Z h o .byte (2 * 3) (own_u f)
set_option maxRecDepth 65536 in
set_option maxHeartbeats 40000000 in
theorem rm17n3 (l : Launch) (Z : State) (a0 : Array Value) (hw : ∀ d ∈ tables_1, d.before a0 Z = true) (ws : List Jvm.Cond) (a1 : Addr) (f : Nat → Int32) (h0 : Heap) (n0 : Nat) (Z0 : n0 ≤ h0.size) (OL : Old Z n0 h0) (O5 : Sta Z Z.heap "java/lang/StringUTF16" "$assertionsDisabled" "Z" (.int (1 : Int32))) (O6 : Sta Z Z.heap "java/lang/StringUTF16" "HI_BYTE_SHIFT" "I" (.int (0 : Int32))) (O7 : Sta Z Z.heap "java/lang/StringUTF16" "LO_BYTE_SHIFT" "I" (.int (8 : Int32))) (A_a1_0 : Ari Z h0 a1 .char 3 f) :
    MetFree l (⟨"java/lang/StringUTF16", "toBytes", "([CII)[B"⟩ : MethodName) (head1 (Jvm.Cond.code (⟨"java/lang/StringUTF16", "toBytes", "([CII)[B"⟩ : MethodName) jdk_52_method_14_code 5 (some (.array .byte)) :: ws) ({ frames := 2, cells := 1, slots := 8, locals := 24 } : Room)) (fun a U => a = #[(.ref a1), (.int (0 : Int32)), (.int (Int32.ofNat 3))] ∧ Z.Warmed39 U.vm ∧ U.heap = h0) (fun _ _ _ _ _ => True) (fun _ U o U' => ∃ v L, o = .returned v ∧ Q17n3 Z a1 f h0 n0 v U'.heap L ∧ FrameEnd U o U' L ({ frames := 2, cells := 1, slots := 8, locals := 24 } : Room).cells ({ frames := 2, cells := 1, slots := 8, locals := 24 } : Room).slots) := by
  refine MetFree.of_bodySF (plainFor_of_name pn_17) hisR ?_
  intro p e s m args below meth c s₁ Bd hml0 hP hK
  obtain ⟨rfl, hZ, hh⟩ := hP
  have hx := Bd.exec
  have hby := Bd.bytes
  have hlk := Bd.notSynchronized
  have hml : c.maxLocals = 5 := hml0
  have hown : s.vm.findClass "java/lang/StringUTF16" = some m.cls := findClass_of_methodNamed Bd.named
  have hnm := (name_of_methodNamed Bd.named Bd.method).1
  have X0 : Stand p l e ({ frames := 2, cells := 1, slots := 8, locals := 24 } : Room) s m #[(.ref a1), (.int (0 : Int32)), (.int (Int32.ofNat 3))] below meth c s₁ [] 0 0 := Stand.of_body Bd
  have e0 : s₁.heap = h0 := by rw [← hh, Bd.state]; rfl
  have N0 := Fr.nil n0
  have K0 : Keep h0 h0 [] := Keep.refl h0 _
  show Goes p e below s ({ frames := 2, cells := 1, slots := 8, locals := 24 } : Room).cells ({ frames := 2, cells := 1, slots := 8, locals := 24 } : Room).slots (Q17n3 Z a1 f h0 n0) s₁ (entryFrame m #[(.ref a1), (.int (0 : Int32)), (.int (Int32.ofNat 3))] 5)
  refine Goes.step (fun t k => castTop (ef_17n3 m a1) k) ?_
  refine Goes.step (fun _ k => XS.iloadN X0.here hx rfl (hb hby d17_0) rfl k) ?_
  obtain ⟨v1, T1, h1, L1, X1, e1, Q1, st1⟩ := callX X0 hx hZ (y := (⟨"java/lang/StringUTF16", "newBytesFor", "(I)[B"⟩ : MethodName)) hown (hw _ (List.mem_of_getElem? (i := 78) rfl)) (hw _ (List.mem_of_getElem? (i := 79) rfl)) (hw _ (List.mem_of_getElem? (i := 19) rfl)) (hw _ (List.mem_of_getElem? (i := 80) rfl)) (by decide) (W := 0) (argsL := [(.int (Int32.ofNat 3))]) (rest := []) (rm18 l Z a0 hw [] (Int32.ofNat 3) 3 h0 n0 Z0 rfl (by decide)) (by decide) (by decide) (by decide) (by decide) e0 (g := (mkF m 1 #[.val (.ref a1), .val (.int (0 : Int32)), .val (.int (Int32.ofNat 3)), .unset, .unset] [(.int (Int32.ofNat 3))])) rfl (by rw [hml]; rfl) (lenOf pd_17n3_0 rfl) rfl (by show 2 * 0 + _ ≤ _; exact Nat.le_of_eq rfl) (hb hby d17_1)
  obtain ⟨o1, rfl, NQ1, KQ1, so1, hA1⟩ := Q1
  refine Goes.step st1 ?_
  have A_a1_1 := A_a1_0.keep KQ1 nin0
  have z_1 : n0 ≤ h1.size := Nat.le_trans Z0 KQ1.1
  have K_1 : Keep h0 h1 [] := Keep.trans K0 KQ1 all0
  have N_1 := Fr.app N0 NQ1
  have ne_o1_a1 : o1 ≠ a1 := Nat.ne_of_gt (Nat.lt_of_lt_of_le A_a1_0.lt so1)
  have ge_o1 : n0 ≤ o1 := Nat.le_trans Z0 so1
  have sz_o1 : h0.size ≤ o1 := Nat.le_trans K0.1 so1
  show Goes p e below s _ _ _ T1 (mkF m 4 #[.val (.ref a1), .val (.int (0 : Int32)), .val (.int (Int32.ofNat 3)), .unset, .unset] [(.ref o1)])
  refine Goes.step (fun _ k => XS.astoreN X1.here hx rfl (hb hby d17_4) rfl rfl (l' := #[.val (.ref a1), .val (.int (0 : Int32)), .val (.int (Int32.ofNat 3)), .val (.ref o1), .unset]) rfl k) ?_
  refine Goes.step (fun _ k => XS.iconst X1.here hx rfl (hb hby d17_5) k) ?_
  show Goes p e below s _ _ _ T1 (mkF m 6 #[.val (.ref a1), .val (.int (0 : Int32)), .val (.int (Int32.ofNat 3)), .val (.ref o1), .unset] [(.int (0 : Int32))])
  refine Goes.step (fun _ k => XS.istore X1.here hx rfl (hb hby d17_6) rfl (l' := #[.val (.ref a1), .val (.int (0 : Int32)), .val (.int (Int32.ofNat 3)), .val (.ref o1), .val (.int (0 : Int32))]) rfl k) ?_
  refine Goes.step (fun _ k => XS.iload X1.here hx rfl (hb hby d17_8) rfl k) ?_
  show Goes p e below s _ _ _ T1 (mkF m 10 #[.val (.ref a1), .val (.int (0 : Int32)), .val (.int (Int32.ofNat 3)), .val (.ref o1), .val (.int (0 : Int32))] [(.int (0 : Int32))])
  refine Goes.step (fun _ k => XS.iloadN X1.here hx rfl (hb hby d17_10) rfl k) ?_
  refine Goes.step (fun _ k => XS.icmpNo X1.here hx rfl (hb hby d17_11) rfl (tlt (by decide : (0 : Int32) < (Int32.ofNat 3))).2.1 k) ?_
  show Goes p e below s _ _ _ T1 (mkF m 14 #[.val (.ref a1), .val (.int (0 : Int32)), .val (.int (Int32.ofNat 3)), .val (.ref o1), .val (.int (0 : Int32))] [])
  refine Goes.step (fun _ k => XS.aloadN X1.here hx rfl (hb hby d17_14) rfl rfl k) ?_
  refine Goes.step (fun _ k => XS.iload X1.here hx rfl (hb hby d17_15) rfl k) ?_
  show Goes p e below s _ _ _ T1 (mkF m 17 #[.val (.ref a1), .val (.int (0 : Int32)), .val (.int (Int32.ofNat 3)), .val (.ref o1), .val (.int (0 : Int32))] [(.int (0 : Int32)), (.ref o1)])
  refine Goes.step (fun _ k => XS.aloadN X1.here hx rfl (hb hby d17_17) rfl rfl k) ?_
  refine Goes.step (fun _ k => XS.iloadN X1.here hx rfl (hb hby d17_18) rfl k) ?_
  show Goes p e below s _ _ _ T1 (mkF m 19 #[.val (.ref a1), .val (.int (0 : Int32)), .val (.int (Int32.ofNat 3)), .val (.ref o1), .val (.int (0 : Int32))] [(.int (0 : Int32)), (.ref a1), (.int (0 : Int32)), (.ref o1)])
  refine Goes.step (fun _ k => rdC X1 hx hZ e1 A_a1_1 (0) rfl (by decide) (g := (mkF m 19 #[.val (.ref a1), .val (.int (0 : Int32)), .val (.int (Int32.ofNat 3)), .val (.ref o1), .val (.int (0 : Int32))] [(.int (0 : Int32)), (.ref a1), (.int (0 : Int32)), (.ref o1)])) rfl rfl (hb hby d17_19) _ k) ?_
  show Goes p e below s _ _ _ T1 (mkF m 20 #[.val (.ref a1), .val (.int (0 : Int32)), .val (.int (Int32.ofNat 3)), .val (.ref o1), .val (.int (0 : Int32))] [(.int (f (0))), (.int (0 : Int32)), (.ref o1)])
  obtain ⟨v2, T2, h2, L2, X2, e2, Q2, st2⟩ := callX X1 hx hZ (y := (⟨"java/lang/StringUTF16", "putChar", "([BII)V"⟩ : MethodName)) hown (hw _ (List.mem_of_getElem? (i := 85) rfl)) (hw _ (List.mem_of_getElem? (i := 86) rfl)) (hw _ (List.mem_of_getElem? (i := 19) rfl)) (hw _ (List.mem_of_getElem? (i := 87) rfl)) (by decide) (W := 0) (argsL := [(.ref o1), (.int (0 : Int32)), (.int (f (0)))]) (rest := []) (rm20 l Z a0 hw [] o1 (0 : Int32) (f (0)) 0 3 (fun _ => 0) h1 n0 z_1 (OL.keep K_1 all0) O5 O6 O7 hA1 rfl (by decide) (by decide) ge_o1) (by decide) (by decide) (by decide) (by decide) e1 (g := (mkF m 20 #[.val (.ref a1), .val (.int (0 : Int32)), .val (.int (Int32.ofNat 3)), .val (.ref o1), .val (.int (0 : Int32))] [(.int (f (0))), (.int (0 : Int32)), (.ref o1)])) rfl (by rw [hml]; rfl) (lenOf pd_17n3_1 rfl) rfl (by show 2 * 0 + _ ≤ _; exact Nat.le_of_eq rfl) (hb hby d17_20)
  obtain ⟨rfl, NQ2, KQ2, hA2⟩ := Q2
  refine Goes.step st2 ?_
  have A_a1_2 := A_a1_1.keep KQ2 (ninS (Ne.symm ne_o1_a1) nin0)
  have z_2 : n0 ≤ h2.size := Nat.le_trans z_1 KQ2.1
  have K_2 : Keep h0 h2 [] := Keep.trans K_1 KQ2 (allS (Or.inr sz_o1) all0)
  have N_2 := Fr.app N_1 NQ2
  show Goes p e below s _ _ _ T2 (mkF m 23 #[.val (.ref a1), .val (.int (0 : Int32)), .val (.int (Int32.ofNat 3)), .val (.ref o1), .val (.int (0 : Int32))] [])
  refine Goes.step (fun _ k => XS.iinc X2.here hx rfl (hb hby d17_23) rfl (l' := #[.val (.ref a1), .val (.int (1 : Int32)), .val (.int (Int32.ofNat 3)), .val (.ref o1), .val (.int (0 : Int32))]) rfl k) ?_
  show Goes p e below s _ _ _ T2 (mkF m 26 #[.val (.ref a1), .val (.int (1 : Int32)), .val (.int (Int32.ofNat 3)), .val (.ref o1), .val (.int (0 : Int32))] [])
  refine Goes.step (fun _ k => XS.iinc X2.here hx rfl (hb hby d17_26) rfl (l' := #[.val (.ref a1), .val (.int (1 : Int32)), .val (.int (Int32.ofNat 3)), .val (.ref o1), .val (.int (1 : Int32))]) rfl k) ?_
  show Goes p e below s _ _ _ T2 (mkF m 29 #[.val (.ref a1), .val (.int (1 : Int32)), .val (.int (Int32.ofNat 3)), .val (.ref o1), .val (.int (1 : Int32))] [])
  refine Goes.step (fun _ k => XS.goto X2.here hx rfl (pc0 := 29) (pc' := 8) rfl (hb hby d17_29) (by decide) (by decide) k) ?_
  refine Goes.step (fun _ k => XS.iload X2.here hx rfl (hb hby d17_8) rfl k) ?_
  show Goes p e below s _ _ _ T2 (mkF m 10 #[.val (.ref a1), .val (.int (1 : Int32)), .val (.int (Int32.ofNat 3)), .val (.ref o1), .val (.int (1 : Int32))] [(.int (1 : Int32))])
  refine Goes.step (fun _ k => XS.iloadN X2.here hx rfl (hb hby d17_10) rfl k) ?_
  refine Goes.step (fun _ k => XS.icmpNo X2.here hx rfl (hb hby d17_11) rfl (tlt (by decide : (1 : Int32) < (Int32.ofNat 3))).2.1 k) ?_
  show Goes p e below s _ _ _ T2 (mkF m 14 #[.val (.ref a1), .val (.int (1 : Int32)), .val (.int (Int32.ofNat 3)), .val (.ref o1), .val (.int (1 : Int32))] [])
  refine Goes.step (fun _ k => XS.aloadN X2.here hx rfl (hb hby d17_14) rfl rfl k) ?_
  refine Goes.step (fun _ k => XS.iload X2.here hx rfl (hb hby d17_15) rfl k) ?_
  show Goes p e below s _ _ _ T2 (mkF m 17 #[.val (.ref a1), .val (.int (1 : Int32)), .val (.int (Int32.ofNat 3)), .val (.ref o1), .val (.int (1 : Int32))] [(.int (1 : Int32)), (.ref o1)])
  refine Goes.step (fun _ k => XS.aloadN X2.here hx rfl (hb hby d17_17) rfl rfl k) ?_
  refine Goes.step (fun _ k => XS.iloadN X2.here hx rfl (hb hby d17_18) rfl k) ?_
  show Goes p e below s _ _ _ T2 (mkF m 19 #[.val (.ref a1), .val (.int (1 : Int32)), .val (.int (Int32.ofNat 3)), .val (.ref o1), .val (.int (1 : Int32))] [(.int (1 : Int32)), (.ref a1), (.int (1 : Int32)), (.ref o1)])
  refine Goes.step (fun _ k => rdC X2 hx hZ e2 A_a1_2 (1) rfl (by decide) (g := (mkF m 19 #[.val (.ref a1), .val (.int (1 : Int32)), .val (.int (Int32.ofNat 3)), .val (.ref o1), .val (.int (1 : Int32))] [(.int (1 : Int32)), (.ref a1), (.int (1 : Int32)), (.ref o1)])) rfl rfl (hb hby d17_19) _ k) ?_
  show Goes p e below s _ _ _ T2 (mkF m 20 #[.val (.ref a1), .val (.int (1 : Int32)), .val (.int (Int32.ofNat 3)), .val (.ref o1), .val (.int (1 : Int32))] [(.int (f (1))), (.int (1 : Int32)), (.ref o1)])
  obtain ⟨v3, T3, h3, L3, X3, e3, Q3, st3⟩ := callX X2 hx hZ (y := (⟨"java/lang/StringUTF16", "putChar", "([BII)V"⟩ : MethodName)) hown (hw _ (List.mem_of_getElem? (i := 85) rfl)) (hw _ (List.mem_of_getElem? (i := 86) rfl)) (hw _ (List.mem_of_getElem? (i := 19) rfl)) (hw _ (List.mem_of_getElem? (i := 87) rfl)) (by decide) (W := 0) (argsL := [(.ref o1), (.int (1 : Int32)), (.int (f (1)))]) (rest := []) (rm20 l Z a0 hw [] o1 (1 : Int32) (f (1)) 1 3 (updI (updI (fun _ => 0) (2 * 0) (own_bb ((f (0)) >>> ((0 : Int32) &&& 31)))) (2 * 0 + 1) (own_bb ((f (0)) >>> ((8 : Int32) &&& 31)))) h2 n0 z_2 (OL.keep K_2 all0) O5 O6 O7 hA2 rfl (by decide) (by decide) ge_o1) (by decide) (by decide) (by decide) (by decide) e2 (g := (mkF m 20 #[.val (.ref a1), .val (.int (1 : Int32)), .val (.int (Int32.ofNat 3)), .val (.ref o1), .val (.int (1 : Int32))] [(.int (f (1))), (.int (1 : Int32)), (.ref o1)])) rfl (by rw [hml]; rfl) (lenOf pd_17n3_1 rfl) rfl (by show 2 * 0 + _ ≤ _; exact Nat.le_of_eq rfl) (hb hby d17_20)
  obtain ⟨rfl, NQ3, KQ3, hA3⟩ := Q3
  refine Goes.step st3 ?_
  have A_a1_3 := A_a1_2.keep KQ3 (ninS (Ne.symm ne_o1_a1) nin0)
  have z_3 : n0 ≤ h3.size := Nat.le_trans z_2 KQ3.1
  have K_3 : Keep h0 h3 [] := Keep.trans K_2 KQ3 (allS (Or.inr sz_o1) all0)
  have N_3 := Fr.app N_2 NQ3
  show Goes p e below s _ _ _ T3 (mkF m 23 #[.val (.ref a1), .val (.int (1 : Int32)), .val (.int (Int32.ofNat 3)), .val (.ref o1), .val (.int (1 : Int32))] [])
  refine Goes.step (fun _ k => XS.iinc X3.here hx rfl (hb hby d17_23) rfl (l' := #[.val (.ref a1), .val (.int (2 : Int32)), .val (.int (Int32.ofNat 3)), .val (.ref o1), .val (.int (1 : Int32))]) rfl k) ?_
  show Goes p e below s _ _ _ T3 (mkF m 26 #[.val (.ref a1), .val (.int (2 : Int32)), .val (.int (Int32.ofNat 3)), .val (.ref o1), .val (.int (1 : Int32))] [])
  refine Goes.step (fun _ k => XS.iinc X3.here hx rfl (hb hby d17_26) rfl (l' := #[.val (.ref a1), .val (.int (2 : Int32)), .val (.int (Int32.ofNat 3)), .val (.ref o1), .val (.int (2 : Int32))]) rfl k) ?_
  show Goes p e below s _ _ _ T3 (mkF m 29 #[.val (.ref a1), .val (.int (2 : Int32)), .val (.int (Int32.ofNat 3)), .val (.ref o1), .val (.int (2 : Int32))] [])
  refine Goes.step (fun _ k => XS.goto X3.here hx rfl (pc0 := 29) (pc' := 8) rfl (hb hby d17_29) (by decide) (by decide) k) ?_
  refine Goes.step (fun _ k => XS.iload X3.here hx rfl (hb hby d17_8) rfl k) ?_
  show Goes p e below s _ _ _ T3 (mkF m 10 #[.val (.ref a1), .val (.int (2 : Int32)), .val (.int (Int32.ofNat 3)), .val (.ref o1), .val (.int (2 : Int32))] [(.int (2 : Int32))])
  refine Goes.step (fun _ k => XS.iloadN X3.here hx rfl (hb hby d17_10) rfl k) ?_
  refine Goes.step (fun _ k => XS.icmpNo X3.here hx rfl (hb hby d17_11) rfl (tlt (by decide : (2 : Int32) < (Int32.ofNat 3))).2.1 k) ?_
  show Goes p e below s _ _ _ T3 (mkF m 14 #[.val (.ref a1), .val (.int (2 : Int32)), .val (.int (Int32.ofNat 3)), .val (.ref o1), .val (.int (2 : Int32))] [])
  refine Goes.step (fun _ k => XS.aloadN X3.here hx rfl (hb hby d17_14) rfl rfl k) ?_
  refine Goes.step (fun _ k => XS.iload X3.here hx rfl (hb hby d17_15) rfl k) ?_
  show Goes p e below s _ _ _ T3 (mkF m 17 #[.val (.ref a1), .val (.int (2 : Int32)), .val (.int (Int32.ofNat 3)), .val (.ref o1), .val (.int (2 : Int32))] [(.int (2 : Int32)), (.ref o1)])
  refine Goes.step (fun _ k => XS.aloadN X3.here hx rfl (hb hby d17_17) rfl rfl k) ?_
  refine Goes.step (fun _ k => XS.iloadN X3.here hx rfl (hb hby d17_18) rfl k) ?_
  show Goes p e below s _ _ _ T3 (mkF m 19 #[.val (.ref a1), .val (.int (2 : Int32)), .val (.int (Int32.ofNat 3)), .val (.ref o1), .val (.int (2 : Int32))] [(.int (2 : Int32)), (.ref a1), (.int (2 : Int32)), (.ref o1)])
  refine Goes.step (fun _ k => rdC X3 hx hZ e3 A_a1_3 (2) rfl (by decide) (g := (mkF m 19 #[.val (.ref a1), .val (.int (2 : Int32)), .val (.int (Int32.ofNat 3)), .val (.ref o1), .val (.int (2 : Int32))] [(.int (2 : Int32)), (.ref a1), (.int (2 : Int32)), (.ref o1)])) rfl rfl (hb hby d17_19) _ k) ?_
  show Goes p e below s _ _ _ T3 (mkF m 20 #[.val (.ref a1), .val (.int (2 : Int32)), .val (.int (Int32.ofNat 3)), .val (.ref o1), .val (.int (2 : Int32))] [(.int (f (2))), (.int (2 : Int32)), (.ref o1)])
  obtain ⟨v4, T4, h4, L4, X4, e4, Q4, st4⟩ := callX X3 hx hZ (y := (⟨"java/lang/StringUTF16", "putChar", "([BII)V"⟩ : MethodName)) hown (hw _ (List.mem_of_getElem? (i := 85) rfl)) (hw _ (List.mem_of_getElem? (i := 86) rfl)) (hw _ (List.mem_of_getElem? (i := 19) rfl)) (hw _ (List.mem_of_getElem? (i := 87) rfl)) (by decide) (W := 0) (argsL := [(.ref o1), (.int (2 : Int32)), (.int (f (2)))]) (rest := []) (rm20 l Z a0 hw [] o1 (2 : Int32) (f (2)) 2 3 (updI (updI (updI (updI (fun _ => 0) (2 * 0) (own_bb ((f (0)) >>> ((0 : Int32) &&& 31)))) (2 * 0 + 1) (own_bb ((f (0)) >>> ((8 : Int32) &&& 31)))) (2 * 1) (own_bb ((f (1)) >>> ((0 : Int32) &&& 31)))) (2 * 1 + 1) (own_bb ((f (1)) >>> ((8 : Int32) &&& 31)))) h3 n0 z_3 (OL.keep K_3 all0) O5 O6 O7 hA3 rfl (by decide) (by decide) ge_o1) (by decide) (by decide) (by decide) (by decide) e3 (g := (mkF m 20 #[.val (.ref a1), .val (.int (2 : Int32)), .val (.int (Int32.ofNat 3)), .val (.ref o1), .val (.int (2 : Int32))] [(.int (f (2))), (.int (2 : Int32)), (.ref o1)])) rfl (by rw [hml]; rfl) (lenOf pd_17n3_1 rfl) rfl (by show 2 * 0 + _ ≤ _; exact Nat.le_of_eq rfl) (hb hby d17_20)
  obtain ⟨rfl, NQ4, KQ4, hA4⟩ := Q4
  refine Goes.step st4 ?_
  have A_a1_4 := A_a1_3.keep KQ4 (ninS (Ne.symm ne_o1_a1) nin0)
  have z_4 : n0 ≤ h4.size := Nat.le_trans z_3 KQ4.1
  have K_4 : Keep h0 h4 [] := Keep.trans K_3 KQ4 (allS (Or.inr sz_o1) all0)
  have N_4 := Fr.app N_3 NQ4
  show Goes p e below s _ _ _ T4 (mkF m 23 #[.val (.ref a1), .val (.int (2 : Int32)), .val (.int (Int32.ofNat 3)), .val (.ref o1), .val (.int (2 : Int32))] [])
  refine Goes.step (fun _ k => XS.iinc X4.here hx rfl (hb hby d17_23) rfl (l' := #[.val (.ref a1), .val (.int (3 : Int32)), .val (.int (Int32.ofNat 3)), .val (.ref o1), .val (.int (2 : Int32))]) rfl k) ?_
  show Goes p e below s _ _ _ T4 (mkF m 26 #[.val (.ref a1), .val (.int (3 : Int32)), .val (.int (Int32.ofNat 3)), .val (.ref o1), .val (.int (2 : Int32))] [])
  refine Goes.step (fun _ k => XS.iinc X4.here hx rfl (hb hby d17_26) rfl (l' := #[.val (.ref a1), .val (.int (3 : Int32)), .val (.int (Int32.ofNat 3)), .val (.ref o1), .val (.int (3 : Int32))]) rfl k) ?_
  show Goes p e below s _ _ _ T4 (mkF m 29 #[.val (.ref a1), .val (.int (3 : Int32)), .val (.int (Int32.ofNat 3)), .val (.ref o1), .val (.int (3 : Int32))] [])
  refine Goes.step (fun _ k => XS.goto X4.here hx rfl (pc0 := 29) (pc' := 8) rfl (hb hby d17_29) (by decide) (by decide) k) ?_
  refine Goes.step (fun _ k => XS.iload X4.here hx rfl (hb hby d17_8) rfl k) ?_
  show Goes p e below s _ _ _ T4 (mkF m 10 #[.val (.ref a1), .val (.int (3 : Int32)), .val (.int (Int32.ofNat 3)), .val (.ref o1), .val (.int (3 : Int32))] [(.int (3 : Int32))])
  refine Goes.step (fun _ k => XS.iloadN X4.here hx rfl (hb hby d17_10) rfl k) ?_
  refine Goes.step (fun _ k => XS.icmpYes X4.here hx rfl (pc0 := 11) (pc' := 32) rfl (hb hby d17_11) rfl (flt (by decide : ¬ ((3 : Int32) < (Int32.ofNat 3)))).2.1 (by decide) (by decide) k) ?_
  show Goes p e below s _ _ _ T4 (mkF m 32 #[.val (.ref a1), .val (.int (3 : Int32)), .val (.int (Int32.ofNat 3)), .val (.ref o1), .val (.int (3 : Int32))] [])
  refine Goes.step (fun _ k => XS.aloadN X4.here hx rfl (hb hby d17_32) rfl rfl k) ?_
  show Goes p e below s _ _ _ T4 (mkF m 33 #[.val (.ref a1), .val (.int (3 : Int32)), .val (.int (Int32.ofNat 3)), .val (.ref o1), .val (.int (3 : Int32))] [(.ref o1)])
  exact Goes.outR X4 hx hlk Bd.returns rfl rfl (hb hby d17_33) (by rw [e4]; exact ⟨o1, rfl, N_4, K_4, sz_o1, hA4.cast (own_tb3 f)⟩) (by decide) (by decide)
theorem own_cp3 (f g : Nat → Int32) (j : Nat) (hj : j < 3) : (updI (updI (updI g (0) (((f (0)).toInt8.toInt32).toInt8.toInt32)) (1) (((f (1)).toInt8.toInt32).toInt8.toInt32)) (2) (((f (2)).toInt8.toInt32).toInt8.toInt32)) j = own_bb (f j) := by
  obtain rfl | rfl | rfl : j = 0 ∨ j = 1 ∨ j = 2 := by omega
  all_goals simp [updI, own_bb]
theorem ef_5n3 (m : MethodId) (a1 : Addr) (a3 : Addr) : entryFrame m #[(.ref a1), (.int (0 : Int32)), (.ref a3), (.int (0 : Int32)), (.int (Int32.ofNat 3))] 7 = mkF m 0 #[.val (.ref a1), .val (.int (0 : Int32)), .val (.ref a3), .val (.int (0 : Int32)), .val (.int (Int32.ofNat 3)), .unset, .unset] [] := by first | (simp [entryFrame, mkF, argsToLocals, Value.category]; done) | rfl
def Q5n3 (Z : State) (a1 : Addr) (a3 : Addr) (f : Nat → Int32) (g : Nat → Int32) (h0 : Heap) (n0 : Nat) (v : Option Value) (h : Heap) (L : List Loc) : Prop := ∃ r : Nat, v = some (.int (Int32.ofNat r)) ∧ Fr n0 L ∧ Keep h0 h [a3] ∧ ((r = 3 ∧ (∀ j, j < 3 → ¬ ((255 : Int32) < f j)) ∧ Ari Z h a3 .byte 3 (fun j => own_bb (f j))) ∨ (r < 3 ∧ (255 : Int32) < f r))
set_option maxRecDepth 65536 in
set_option maxHeartbeats 40000000 in
theorem rm5n3 (l : Launch) (Z : State) (a0 : Array Value) (hw : ∀ d ∈ tables_1, d.before a0 Z = true) (ws : List Jvm.Cond) (a1 : Addr) (a3 : Addr) (f : Nat → Int32) (g : Nat → Int32) (h0 : Heap) (n0 : Nat) (Z0 : n0 ≤ h0.size) (A_a1_0 : Ari Z h0 a1 .char 3 f) (A_a3_0 : Ari Z h0 a3 .byte 3 g) (ne_a1_a3 : a1 ≠ a3) (ge_a3 : n0 ≤ a3) :
    MetFree l (⟨"java/lang/StringUTF16", "compress", "([CI[BII)I"⟩ : MethodName) (head1 (Jvm.Cond.code (⟨"java/lang/StringUTF16", "compress", "([CI[BII)I"⟩ : MethodName) jdk_52_method_21_code 7 (some .int) :: ws) ({ frames := 0, cells := 0, slots := 0, locals := 0 } : Room)) (fun a U => a = #[(.ref a1), (.int (0 : Int32)), (.ref a3), (.int (0 : Int32)), (.int (Int32.ofNat 3))] ∧ Z.Warmed39 U.vm ∧ U.heap = h0) (fun _ _ _ _ _ => True) (fun _ U o U' => ∃ v L, o = .returned v ∧ Q5n3 Z a1 a3 f g h0 n0 v U'.heap L ∧ FrameEnd U o U' L ({ frames := 0, cells := 0, slots := 0, locals := 0 } : Room).cells ({ frames := 0, cells := 0, slots := 0, locals := 0 } : Room).slots) := by
  refine MetFree.of_bodySF (plainFor_of_name pn_5) hisR ?_
  intro p e s m args below meth c s₁ Bd hml0 hP hK
  obtain ⟨rfl, hZ, hh⟩ := hP
  have hx := Bd.exec
  have hby := Bd.bytes
  have hlk := Bd.notSynchronized
  have hml : c.maxLocals = 7 := hml0
  have hown : s.vm.findClass "java/lang/StringUTF16" = some m.cls := findClass_of_methodNamed Bd.named
  have hnm := (name_of_methodNamed Bd.named Bd.method).1
  have X0 : Stand p l e ({ frames := 0, cells := 0, slots := 0, locals := 0 } : Room) s m #[(.ref a1), (.int (0 : Int32)), (.ref a3), (.int (0 : Int32)), (.int (Int32.ofNat 3))] below meth c s₁ [] 0 0 := Stand.of_body Bd
  have e0 : s₁.heap = h0 := by rw [← hh, Bd.state]; rfl
  have N0 := Fr.nil n0
  have K0 : Keep h0 h0 [a3] := Keep.refl h0 _
  show Goes p e below s ({ frames := 0, cells := 0, slots := 0, locals := 0 } : Room).cells ({ frames := 0, cells := 0, slots := 0, locals := 0 } : Room).slots (Q5n3 Z a1 a3 f g h0 n0) s₁ (entryFrame m #[(.ref a1), (.int (0 : Int32)), (.ref a3), (.int (0 : Int32)), (.int (Int32.ofNat 3))] 7)
  refine Goes.step (fun t k => castTop (ef_5n3 m a1 a3) k) ?_
  refine Goes.step (fun _ k => XS.iconst X0.here hx rfl (hb hby d5_0) k) ?_
  refine Goes.step (fun _ k => XS.istore X0.here hx rfl (hb hby d5_1) rfl (l' := #[.val (.ref a1), .val (.int (0 : Int32)), .val (.ref a3), .val (.int (0 : Int32)), .val (.int (Int32.ofNat 3)), .val (.int (0 : Int32)), .unset]) rfl k) ?_
  show Goes p e below s _ _ _ s₁ (mkF m 3 #[.val (.ref a1), .val (.int (0 : Int32)), .val (.ref a3), .val (.int (0 : Int32)), .val (.int (Int32.ofNat 3)), .val (.int (0 : Int32)), .unset] [])
  refine Goes.step (fun _ k => XS.iload X0.here hx rfl (hb hby d5_3) rfl k) ?_
  refine Goes.step (fun _ k => XS.iload X0.here hx rfl (hb hby d5_5) rfl k) ?_
  show Goes p e below s _ _ _ s₁ (mkF m 7 #[.val (.ref a1), .val (.int (0 : Int32)), .val (.ref a3), .val (.int (0 : Int32)), .val (.int (Int32.ofNat 3)), .val (.int (0 : Int32)), .unset] [(.int (Int32.ofNat 3)), (.int (0 : Int32))])
  refine Goes.step (fun _ k => XS.icmpNo X0.here hx rfl (hb hby d5_7) rfl (tlt (by decide : (0 : Int32) < (Int32.ofNat 3))).2.1 k) ?_
  show Goes p e below s _ _ _ s₁ (mkF m 10 #[.val (.ref a1), .val (.int (0 : Int32)), .val (.ref a3), .val (.int (0 : Int32)), .val (.int (Int32.ofNat 3)), .val (.int (0 : Int32)), .unset] [])
  refine Goes.step (fun _ k => XS.aloadN X0.here hx rfl (hb hby d5_10) rfl rfl k) ?_
  refine Goes.step (fun _ k => XS.iloadN X0.here hx rfl (hb hby d5_11) rfl k) ?_
  show Goes p e below s _ _ _ s₁ (mkF m 12 #[.val (.ref a1), .val (.int (0 : Int32)), .val (.ref a3), .val (.int (0 : Int32)), .val (.int (Int32.ofNat 3)), .val (.int (0 : Int32)), .unset] [(.int (0 : Int32)), (.ref a1)])
  refine Goes.step (fun _ k => rdC X0 hx hZ e0 A_a1_0 (0) rfl (by decide) (g := (mkF m 12 #[.val (.ref a1), .val (.int (0 : Int32)), .val (.ref a3), .val (.int (0 : Int32)), .val (.int (Int32.ofNat 3)), .val (.int (0 : Int32)), .unset] [(.int (0 : Int32)), (.ref a1)])) rfl rfl (hb hby d5_12) _ k) ?_
  show Goes p e below s _ _ _ s₁ (mkF m 13 #[.val (.ref a1), .val (.int (0 : Int32)), .val (.ref a3), .val (.int (0 : Int32)), .val (.int (Int32.ofNat 3)), .val (.int (0 : Int32)), .unset] [(.int (f (0)))])
  refine Goes.step (fun _ k => XS.istore X0.here hx rfl (hb hby d5_13) rfl (l' := #[.val (.ref a1), .val (.int (0 : Int32)), .val (.ref a3), .val (.int (0 : Int32)), .val (.int (Int32.ofNat 3)), .val (.int (0 : Int32)), .val (.int (f (0)))]) rfl k) ?_
  refine Goes.step (fun _ k => XS.iload X0.here hx rfl (hb hby d5_15) rfl k) ?_
  show Goes p e below s _ _ _ s₁ (mkF m 17 #[.val (.ref a1), .val (.int (0 : Int32)), .val (.ref a3), .val (.int (0 : Int32)), .val (.int (Int32.ofNat 3)), .val (.int (0 : Int32)), .val (.int (f (0)))] [(.int (f (0)))])
  refine Goes.step (fun _ k => XS.sipush X0.here hx rfl (hb hby d5_17) k) ?_
  by_cases hc20 : (255 : Int32) < (f (0))
  · refine Goes.step (fun _ k => XS.icmpNo X0.here hx rfl (hb hby d5_20) rfl (tlt hc20).2.2.2 k) ?_
    show Goes p e below s _ _ _ s₁ (mkF m 23 #[.val (.ref a1), .val (.int (0 : Int32)), .val (.ref a3), .val (.int (0 : Int32)), .val (.int (Int32.ofNat 3)), .val (.int (0 : Int32)), .val (.int (f (0)))] [])
    refine Goes.step (fun _ k => XS.iload X0.here hx rfl (hb hby d5_23) rfl k) ?_
    show Goes p e below s _ _ _ s₁ (mkF m 25 #[.val (.ref a1), .val (.int (0 : Int32)), .val (.ref a3), .val (.int (0 : Int32)), .val (.int (Int32.ofNat 3)), .val (.int (0 : Int32)), .val (.int (f (0)))] [(.int (0 : Int32))])
    exact Goes.outI X0 hx hlk Bd.returns (hb hby d5_25) (by rw [e0]; exact ⟨0, rfl, N0, K0, Or.inr ⟨by decide, hc20⟩⟩) (by decide) (by decide)
  · refine Goes.step (fun _ k => XS.icmpYes X0.here hx rfl (pc0 := 20) (pc' := 26) rfl (hb hby d5_20) rfl (flt hc20).2.2.2 (by decide) (by decide) k) ?_
    show Goes p e below s _ _ _ s₁ (mkF m 26 #[.val (.ref a1), .val (.int (0 : Int32)), .val (.ref a3), .val (.int (0 : Int32)), .val (.int (Int32.ofNat 3)), .val (.int (0 : Int32)), .val (.int (f (0)))] [])
    refine Goes.step (fun _ k => XS.aloadN X0.here hx rfl (hb hby d5_26) rfl rfl k) ?_
    show Goes p e below s _ _ _ s₁ (mkF m 27 #[.val (.ref a1), .val (.int (0 : Int32)), .val (.ref a3), .val (.int (0 : Int32)), .val (.int (Int32.ofNat 3)), .val (.int (0 : Int32)), .val (.int (f (0)))] [(.ref a3)])
    refine Goes.step (fun _ k => XS.iloadN X0.here hx rfl (hb hby d5_27) rfl k) ?_
    refine Goes.step (fun _ k => XS.iload X0.here hx rfl (hb hby d5_28) rfl k) ?_
    show Goes p e below s _ _ _ s₁ (mkF m 30 #[.val (.ref a1), .val (.int (0 : Int32)), .val (.ref a3), .val (.int (0 : Int32)), .val (.int (Int32.ofNat 3)), .val (.int (0 : Int32)), .val (.int (f (0)))] [(.int (f (0))), (.int (0 : Int32)), (.ref a3)])
    refine Goes.step (fun _ k => XS.i2b X0.here hx rfl (hb hby d5_30) rfl k) ?_
    show Goes p e below s _ _ _ s₁ (mkF m 31 #[.val (.ref a1), .val (.int (0 : Int32)), .val (.ref a3), .val (.int (0 : Int32)), .val (.int (Int32.ofNat 3)), .val (.int (0 : Int32)), .val (.int (f (0)))] [(.int ((f (0)).toInt8.toInt32)), (.int (0 : Int32)), (.ref a3)])
    obtain ⟨T1, h1, X1, e1, W1, A1, st1⟩ := stoB X0 hx hZ e0 A_a3_0 (0) rfl (by decide) (g := (mkF m 31 #[.val (.ref a1), .val (.int (0 : Int32)), .val (.ref a3), .val (.int (0 : Int32)), .val (.int (Int32.ofNat 3)), .val (.int (0 : Int32)), .val (.int (f (0)))] [(.int ((f (0)).toInt8.toInt32)), (.int (0 : Int32)), (.ref a3)])) rfl rfl (hb hby d5_31)
    refine Goes.step st1 ?_
    have A_a1_1 := A_a1_0.other W1 ne_a1_a3
    have z_1 : n0 ≤ h1.size := by rw [W1.size]; exact Z0
    have K_1 : Keep h0 h1 [a3] := K0.wr W1 (Or.inl (List.mem_of_getElem? (i := 0) rfl))
    have N_1 := Fr.snoc X1 N0 ge_a3
    have A_a3_1 : Ari Z h1 a3 .byte (3) (updI g (0) (((f (0)).toInt8.toInt32).toInt8.toInt32)) := A1
    show Goes p e below s _ _ _ T1 (mkF m 32 #[.val (.ref a1), .val (.int (0 : Int32)), .val (.ref a3), .val (.int (0 : Int32)), .val (.int (Int32.ofNat 3)), .val (.int (0 : Int32)), .val (.int (f (0)))] [])
    refine Goes.step (fun _ k => XS.iinc X1.here hx rfl (hb hby d5_32) rfl (l' := #[.val (.ref a1), .val (.int (1 : Int32)), .val (.ref a3), .val (.int (0 : Int32)), .val (.int (Int32.ofNat 3)), .val (.int (0 : Int32)), .val (.int (f (0)))]) rfl k) ?_
    show Goes p e below s _ _ _ T1 (mkF m 35 #[.val (.ref a1), .val (.int (1 : Int32)), .val (.ref a3), .val (.int (0 : Int32)), .val (.int (Int32.ofNat 3)), .val (.int (0 : Int32)), .val (.int (f (0)))] [])
    refine Goes.step (fun _ k => XS.iinc X1.here hx rfl (hb hby d5_35) rfl (l' := #[.val (.ref a1), .val (.int (1 : Int32)), .val (.ref a3), .val (.int (1 : Int32)), .val (.int (Int32.ofNat 3)), .val (.int (0 : Int32)), .val (.int (f (0)))]) rfl k) ?_
    show Goes p e below s _ _ _ T1 (mkF m 38 #[.val (.ref a1), .val (.int (1 : Int32)), .val (.ref a3), .val (.int (1 : Int32)), .val (.int (Int32.ofNat 3)), .val (.int (0 : Int32)), .val (.int (f (0)))] [])
    refine Goes.step (fun _ k => XS.iinc X1.here hx rfl (hb hby d5_38) rfl (l' := #[.val (.ref a1), .val (.int (1 : Int32)), .val (.ref a3), .val (.int (1 : Int32)), .val (.int (Int32.ofNat 3)), .val (.int (1 : Int32)), .val (.int (f (0)))]) rfl k) ?_
    show Goes p e below s _ _ _ T1 (mkF m 41 #[.val (.ref a1), .val (.int (1 : Int32)), .val (.ref a3), .val (.int (1 : Int32)), .val (.int (Int32.ofNat 3)), .val (.int (1 : Int32)), .val (.int (f (0)))] [])
    refine Goes.step (fun _ k => XS.goto X1.here hx rfl (pc0 := 41) (pc' := 3) rfl (hb hby d5_41) (by decide) (by decide) k) ?_
    refine Goes.step (fun _ k => XS.iload X1.here hx rfl (hb hby d5_3) rfl k) ?_
    show Goes p e below s _ _ _ T1 (mkF m 5 #[.val (.ref a1), .val (.int (1 : Int32)), .val (.ref a3), .val (.int (1 : Int32)), .val (.int (Int32.ofNat 3)), .val (.int (1 : Int32)), .val (.int (f (0)))] [(.int (1 : Int32))])
    refine Goes.step (fun _ k => XS.iload X1.here hx rfl (hb hby d5_5) rfl k) ?_
    refine Goes.step (fun _ k => XS.icmpNo X1.here hx rfl (hb hby d5_7) rfl (tlt (by decide : (1 : Int32) < (Int32.ofNat 3))).2.1 k) ?_
    show Goes p e below s _ _ _ T1 (mkF m 10 #[.val (.ref a1), .val (.int (1 : Int32)), .val (.ref a3), .val (.int (1 : Int32)), .val (.int (Int32.ofNat 3)), .val (.int (1 : Int32)), .val (.int (f (0)))] [])
    refine Goes.step (fun _ k => XS.aloadN X1.here hx rfl (hb hby d5_10) rfl rfl k) ?_
    refine Goes.step (fun _ k => XS.iloadN X1.here hx rfl (hb hby d5_11) rfl k) ?_
    show Goes p e below s _ _ _ T1 (mkF m 12 #[.val (.ref a1), .val (.int (1 : Int32)), .val (.ref a3), .val (.int (1 : Int32)), .val (.int (Int32.ofNat 3)), .val (.int (1 : Int32)), .val (.int (f (0)))] [(.int (1 : Int32)), (.ref a1)])
    refine Goes.step (fun _ k => rdC X1 hx hZ e1 A_a1_1 (1) rfl (by decide) (g := (mkF m 12 #[.val (.ref a1), .val (.int (1 : Int32)), .val (.ref a3), .val (.int (1 : Int32)), .val (.int (Int32.ofNat 3)), .val (.int (1 : Int32)), .val (.int (f (0)))] [(.int (1 : Int32)), (.ref a1)])) rfl rfl (hb hby d5_12) _ k) ?_
    show Goes p e below s _ _ _ T1 (mkF m 13 #[.val (.ref a1), .val (.int (1 : Int32)), .val (.ref a3), .val (.int (1 : Int32)), .val (.int (Int32.ofNat 3)), .val (.int (1 : Int32)), .val (.int (f (0)))] [(.int (f (1)))])
    refine Goes.step (fun _ k => XS.istore X1.here hx rfl (hb hby d5_13) rfl (l' := #[.val (.ref a1), .val (.int (1 : Int32)), .val (.ref a3), .val (.int (1 : Int32)), .val (.int (Int32.ofNat 3)), .val (.int (1 : Int32)), .val (.int (f (1)))]) rfl k) ?_
    refine Goes.step (fun _ k => XS.iload X1.here hx rfl (hb hby d5_15) rfl k) ?_
    show Goes p e below s _ _ _ T1 (mkF m 17 #[.val (.ref a1), .val (.int (1 : Int32)), .val (.ref a3), .val (.int (1 : Int32)), .val (.int (Int32.ofNat 3)), .val (.int (1 : Int32)), .val (.int (f (1)))] [(.int (f (1)))])
    refine Goes.step (fun _ k => XS.sipush X1.here hx rfl (hb hby d5_17) k) ?_
    by_cases hc20_1 : (255 : Int32) < (f (1))
    · refine Goes.step (fun _ k => XS.icmpNo X1.here hx rfl (hb hby d5_20) rfl (tlt hc20_1).2.2.2 k) ?_
      show Goes p e below s _ _ _ T1 (mkF m 23 #[.val (.ref a1), .val (.int (1 : Int32)), .val (.ref a3), .val (.int (1 : Int32)), .val (.int (Int32.ofNat 3)), .val (.int (1 : Int32)), .val (.int (f (1)))] [])
      refine Goes.step (fun _ k => XS.iload X1.here hx rfl (hb hby d5_23) rfl k) ?_
      show Goes p e below s _ _ _ T1 (mkF m 25 #[.val (.ref a1), .val (.int (1 : Int32)), .val (.ref a3), .val (.int (1 : Int32)), .val (.int (Int32.ofNat 3)), .val (.int (1 : Int32)), .val (.int (f (1)))] [(.int (1 : Int32))])
      exact Goes.outI X1 hx hlk Bd.returns (hb hby d5_25) (by rw [e1]; exact ⟨1, rfl, N_1, K_1, Or.inr ⟨by decide, hc20_1⟩⟩) (by decide) (by decide)
    · refine Goes.step (fun _ k => XS.icmpYes X1.here hx rfl (pc0 := 20) (pc' := 26) rfl (hb hby d5_20) rfl (flt hc20_1).2.2.2 (by decide) (by decide) k) ?_
      show Goes p e below s _ _ _ T1 (mkF m 26 #[.val (.ref a1), .val (.int (1 : Int32)), .val (.ref a3), .val (.int (1 : Int32)), .val (.int (Int32.ofNat 3)), .val (.int (1 : Int32)), .val (.int (f (1)))] [])
      refine Goes.step (fun _ k => XS.aloadN X1.here hx rfl (hb hby d5_26) rfl rfl k) ?_
      show Goes p e below s _ _ _ T1 (mkF m 27 #[.val (.ref a1), .val (.int (1 : Int32)), .val (.ref a3), .val (.int (1 : Int32)), .val (.int (Int32.ofNat 3)), .val (.int (1 : Int32)), .val (.int (f (1)))] [(.ref a3)])
      refine Goes.step (fun _ k => XS.iloadN X1.here hx rfl (hb hby d5_27) rfl k) ?_
      refine Goes.step (fun _ k => XS.iload X1.here hx rfl (hb hby d5_28) rfl k) ?_
      show Goes p e below s _ _ _ T1 (mkF m 30 #[.val (.ref a1), .val (.int (1 : Int32)), .val (.ref a3), .val (.int (1 : Int32)), .val (.int (Int32.ofNat 3)), .val (.int (1 : Int32)), .val (.int (f (1)))] [(.int (f (1))), (.int (1 : Int32)), (.ref a3)])
      refine Goes.step (fun _ k => XS.i2b X1.here hx rfl (hb hby d5_30) rfl k) ?_
      show Goes p e below s _ _ _ T1 (mkF m 31 #[.val (.ref a1), .val (.int (1 : Int32)), .val (.ref a3), .val (.int (1 : Int32)), .val (.int (Int32.ofNat 3)), .val (.int (1 : Int32)), .val (.int (f (1)))] [(.int ((f (1)).toInt8.toInt32)), (.int (1 : Int32)), (.ref a3)])
      obtain ⟨T2, h2, X2, e2, W2, A2, st2⟩ := stoB X1 hx hZ e1 A_a3_1 (1) rfl (by decide) (g := (mkF m 31 #[.val (.ref a1), .val (.int (1 : Int32)), .val (.ref a3), .val (.int (1 : Int32)), .val (.int (Int32.ofNat 3)), .val (.int (1 : Int32)), .val (.int (f (1)))] [(.int ((f (1)).toInt8.toInt32)), (.int (1 : Int32)), (.ref a3)])) rfl rfl (hb hby d5_31)
      refine Goes.step st2 ?_
      have A_a1_2 := A_a1_1.other W2 ne_a1_a3
      have z_2 : n0 ≤ h2.size := by rw [W2.size]; exact z_1
      have K_2 : Keep h0 h2 [a3] := K_1.wr W2 (Or.inl (List.mem_of_getElem? (i := 0) rfl))
      have N_2 := Fr.snoc X2 N_1 ge_a3
      have A_a3_2 : Ari Z h2 a3 .byte (3) (updI (updI g (0) (((f (0)).toInt8.toInt32).toInt8.toInt32)) (1) (((f (1)).toInt8.toInt32).toInt8.toInt32)) := A2
      show Goes p e below s _ _ _ T2 (mkF m 32 #[.val (.ref a1), .val (.int (1 : Int32)), .val (.ref a3), .val (.int (1 : Int32)), .val (.int (Int32.ofNat 3)), .val (.int (1 : Int32)), .val (.int (f (1)))] [])
      refine Goes.step (fun _ k => XS.iinc X2.here hx rfl (hb hby d5_32) rfl (l' := #[.val (.ref a1), .val (.int (2 : Int32)), .val (.ref a3), .val (.int (1 : Int32)), .val (.int (Int32.ofNat 3)), .val (.int (1 : Int32)), .val (.int (f (1)))]) rfl k) ?_
      show Goes p e below s _ _ _ T2 (mkF m 35 #[.val (.ref a1), .val (.int (2 : Int32)), .val (.ref a3), .val (.int (1 : Int32)), .val (.int (Int32.ofNat 3)), .val (.int (1 : Int32)), .val (.int (f (1)))] [])
      refine Goes.step (fun _ k => XS.iinc X2.here hx rfl (hb hby d5_35) rfl (l' := #[.val (.ref a1), .val (.int (2 : Int32)), .val (.ref a3), .val (.int (2 : Int32)), .val (.int (Int32.ofNat 3)), .val (.int (1 : Int32)), .val (.int (f (1)))]) rfl k) ?_
      show Goes p e below s _ _ _ T2 (mkF m 38 #[.val (.ref a1), .val (.int (2 : Int32)), .val (.ref a3), .val (.int (2 : Int32)), .val (.int (Int32.ofNat 3)), .val (.int (1 : Int32)), .val (.int (f (1)))] [])
      refine Goes.step (fun _ k => XS.iinc X2.here hx rfl (hb hby d5_38) rfl (l' := #[.val (.ref a1), .val (.int (2 : Int32)), .val (.ref a3), .val (.int (2 : Int32)), .val (.int (Int32.ofNat 3)), .val (.int (2 : Int32)), .val (.int (f (1)))]) rfl k) ?_
      show Goes p e below s _ _ _ T2 (mkF m 41 #[.val (.ref a1), .val (.int (2 : Int32)), .val (.ref a3), .val (.int (2 : Int32)), .val (.int (Int32.ofNat 3)), .val (.int (2 : Int32)), .val (.int (f (1)))] [])
      refine Goes.step (fun _ k => XS.goto X2.here hx rfl (pc0 := 41) (pc' := 3) rfl (hb hby d5_41) (by decide) (by decide) k) ?_
      refine Goes.step (fun _ k => XS.iload X2.here hx rfl (hb hby d5_3) rfl k) ?_
      show Goes p e below s _ _ _ T2 (mkF m 5 #[.val (.ref a1), .val (.int (2 : Int32)), .val (.ref a3), .val (.int (2 : Int32)), .val (.int (Int32.ofNat 3)), .val (.int (2 : Int32)), .val (.int (f (1)))] [(.int (2 : Int32))])
      refine Goes.step (fun _ k => XS.iload X2.here hx rfl (hb hby d5_5) rfl k) ?_
      refine Goes.step (fun _ k => XS.icmpNo X2.here hx rfl (hb hby d5_7) rfl (tlt (by decide : (2 : Int32) < (Int32.ofNat 3))).2.1 k) ?_
      show Goes p e below s _ _ _ T2 (mkF m 10 #[.val (.ref a1), .val (.int (2 : Int32)), .val (.ref a3), .val (.int (2 : Int32)), .val (.int (Int32.ofNat 3)), .val (.int (2 : Int32)), .val (.int (f (1)))] [])
      refine Goes.step (fun _ k => XS.aloadN X2.here hx rfl (hb hby d5_10) rfl rfl k) ?_
      refine Goes.step (fun _ k => XS.iloadN X2.here hx rfl (hb hby d5_11) rfl k) ?_
      show Goes p e below s _ _ _ T2 (mkF m 12 #[.val (.ref a1), .val (.int (2 : Int32)), .val (.ref a3), .val (.int (2 : Int32)), .val (.int (Int32.ofNat 3)), .val (.int (2 : Int32)), .val (.int (f (1)))] [(.int (2 : Int32)), (.ref a1)])
      refine Goes.step (fun _ k => rdC X2 hx hZ e2 A_a1_2 (2) rfl (by decide) (g := (mkF m 12 #[.val (.ref a1), .val (.int (2 : Int32)), .val (.ref a3), .val (.int (2 : Int32)), .val (.int (Int32.ofNat 3)), .val (.int (2 : Int32)), .val (.int (f (1)))] [(.int (2 : Int32)), (.ref a1)])) rfl rfl (hb hby d5_12) _ k) ?_
      show Goes p e below s _ _ _ T2 (mkF m 13 #[.val (.ref a1), .val (.int (2 : Int32)), .val (.ref a3), .val (.int (2 : Int32)), .val (.int (Int32.ofNat 3)), .val (.int (2 : Int32)), .val (.int (f (1)))] [(.int (f (2)))])
      refine Goes.step (fun _ k => XS.istore X2.here hx rfl (hb hby d5_13) rfl (l' := #[.val (.ref a1), .val (.int (2 : Int32)), .val (.ref a3), .val (.int (2 : Int32)), .val (.int (Int32.ofNat 3)), .val (.int (2 : Int32)), .val (.int (f (2)))]) rfl k) ?_
      refine Goes.step (fun _ k => XS.iload X2.here hx rfl (hb hby d5_15) rfl k) ?_
      show Goes p e below s _ _ _ T2 (mkF m 17 #[.val (.ref a1), .val (.int (2 : Int32)), .val (.ref a3), .val (.int (2 : Int32)), .val (.int (Int32.ofNat 3)), .val (.int (2 : Int32)), .val (.int (f (2)))] [(.int (f (2)))])
      refine Goes.step (fun _ k => XS.sipush X2.here hx rfl (hb hby d5_17) k) ?_
      by_cases hc20_2 : (255 : Int32) < (f (2))
      · refine Goes.step (fun _ k => XS.icmpNo X2.here hx rfl (hb hby d5_20) rfl (tlt hc20_2).2.2.2 k) ?_
        show Goes p e below s _ _ _ T2 (mkF m 23 #[.val (.ref a1), .val (.int (2 : Int32)), .val (.ref a3), .val (.int (2 : Int32)), .val (.int (Int32.ofNat 3)), .val (.int (2 : Int32)), .val (.int (f (2)))] [])
        refine Goes.step (fun _ k => XS.iload X2.here hx rfl (hb hby d5_23) rfl k) ?_
        show Goes p e below s _ _ _ T2 (mkF m 25 #[.val (.ref a1), .val (.int (2 : Int32)), .val (.ref a3), .val (.int (2 : Int32)), .val (.int (Int32.ofNat 3)), .val (.int (2 : Int32)), .val (.int (f (2)))] [(.int (2 : Int32))])
        exact Goes.outI X2 hx hlk Bd.returns (hb hby d5_25) (by rw [e2]; exact ⟨2, rfl, N_2, K_2, Or.inr ⟨by decide, hc20_2⟩⟩) (by decide) (by decide)
      · refine Goes.step (fun _ k => XS.icmpYes X2.here hx rfl (pc0 := 20) (pc' := 26) rfl (hb hby d5_20) rfl (flt hc20_2).2.2.2 (by decide) (by decide) k) ?_
        show Goes p e below s _ _ _ T2 (mkF m 26 #[.val (.ref a1), .val (.int (2 : Int32)), .val (.ref a3), .val (.int (2 : Int32)), .val (.int (Int32.ofNat 3)), .val (.int (2 : Int32)), .val (.int (f (2)))] [])
        refine Goes.step (fun _ k => XS.aloadN X2.here hx rfl (hb hby d5_26) rfl rfl k) ?_
        show Goes p e below s _ _ _ T2 (mkF m 27 #[.val (.ref a1), .val (.int (2 : Int32)), .val (.ref a3), .val (.int (2 : Int32)), .val (.int (Int32.ofNat 3)), .val (.int (2 : Int32)), .val (.int (f (2)))] [(.ref a3)])
        refine Goes.step (fun _ k => XS.iloadN X2.here hx rfl (hb hby d5_27) rfl k) ?_
        refine Goes.step (fun _ k => XS.iload X2.here hx rfl (hb hby d5_28) rfl k) ?_
        show Goes p e below s _ _ _ T2 (mkF m 30 #[.val (.ref a1), .val (.int (2 : Int32)), .val (.ref a3), .val (.int (2 : Int32)), .val (.int (Int32.ofNat 3)), .val (.int (2 : Int32)), .val (.int (f (2)))] [(.int (f (2))), (.int (2 : Int32)), (.ref a3)])
        refine Goes.step (fun _ k => XS.i2b X2.here hx rfl (hb hby d5_30) rfl k) ?_
        show Goes p e below s _ _ _ T2 (mkF m 31 #[.val (.ref a1), .val (.int (2 : Int32)), .val (.ref a3), .val (.int (2 : Int32)), .val (.int (Int32.ofNat 3)), .val (.int (2 : Int32)), .val (.int (f (2)))] [(.int ((f (2)).toInt8.toInt32)), (.int (2 : Int32)), (.ref a3)])
        obtain ⟨T3, h3, X3, e3, W3, A3, st3⟩ := stoB X2 hx hZ e2 A_a3_2 (2) rfl (by decide) (g := (mkF m 31 #[.val (.ref a1), .val (.int (2 : Int32)), .val (.ref a3), .val (.int (2 : Int32)), .val (.int (Int32.ofNat 3)), .val (.int (2 : Int32)), .val (.int (f (2)))] [(.int ((f (2)).toInt8.toInt32)), (.int (2 : Int32)), (.ref a3)])) rfl rfl (hb hby d5_31)
        refine Goes.step st3 ?_
        have A_a1_3 := A_a1_2.other W3 ne_a1_a3
        have z_3 : n0 ≤ h3.size := by rw [W3.size]; exact z_2
        have K_3 : Keep h0 h3 [a3] := K_2.wr W3 (Or.inl (List.mem_of_getElem? (i := 0) rfl))
        have N_3 := Fr.snoc X3 N_2 ge_a3
        have A_a3_3 : Ari Z h3 a3 .byte (3) (updI (updI (updI g (0) (((f (0)).toInt8.toInt32).toInt8.toInt32)) (1) (((f (1)).toInt8.toInt32).toInt8.toInt32)) (2) (((f (2)).toInt8.toInt32).toInt8.toInt32)) := A3
        show Goes p e below s _ _ _ T3 (mkF m 32 #[.val (.ref a1), .val (.int (2 : Int32)), .val (.ref a3), .val (.int (2 : Int32)), .val (.int (Int32.ofNat 3)), .val (.int (2 : Int32)), .val (.int (f (2)))] [])
        refine Goes.step (fun _ k => XS.iinc X3.here hx rfl (hb hby d5_32) rfl (l' := #[.val (.ref a1), .val (.int (3 : Int32)), .val (.ref a3), .val (.int (2 : Int32)), .val (.int (Int32.ofNat 3)), .val (.int (2 : Int32)), .val (.int (f (2)))]) rfl k) ?_
        show Goes p e below s _ _ _ T3 (mkF m 35 #[.val (.ref a1), .val (.int (3 : Int32)), .val (.ref a3), .val (.int (2 : Int32)), .val (.int (Int32.ofNat 3)), .val (.int (2 : Int32)), .val (.int (f (2)))] [])
        refine Goes.step (fun _ k => XS.iinc X3.here hx rfl (hb hby d5_35) rfl (l' := #[.val (.ref a1), .val (.int (3 : Int32)), .val (.ref a3), .val (.int (3 : Int32)), .val (.int (Int32.ofNat 3)), .val (.int (2 : Int32)), .val (.int (f (2)))]) rfl k) ?_
        show Goes p e below s _ _ _ T3 (mkF m 38 #[.val (.ref a1), .val (.int (3 : Int32)), .val (.ref a3), .val (.int (3 : Int32)), .val (.int (Int32.ofNat 3)), .val (.int (2 : Int32)), .val (.int (f (2)))] [])
        refine Goes.step (fun _ k => XS.iinc X3.here hx rfl (hb hby d5_38) rfl (l' := #[.val (.ref a1), .val (.int (3 : Int32)), .val (.ref a3), .val (.int (3 : Int32)), .val (.int (Int32.ofNat 3)), .val (.int (3 : Int32)), .val (.int (f (2)))]) rfl k) ?_
        show Goes p e below s _ _ _ T3 (mkF m 41 #[.val (.ref a1), .val (.int (3 : Int32)), .val (.ref a3), .val (.int (3 : Int32)), .val (.int (Int32.ofNat 3)), .val (.int (3 : Int32)), .val (.int (f (2)))] [])
        refine Goes.step (fun _ k => XS.goto X3.here hx rfl (pc0 := 41) (pc' := 3) rfl (hb hby d5_41) (by decide) (by decide) k) ?_
        refine Goes.step (fun _ k => XS.iload X3.here hx rfl (hb hby d5_3) rfl k) ?_
        show Goes p e below s _ _ _ T3 (mkF m 5 #[.val (.ref a1), .val (.int (3 : Int32)), .val (.ref a3), .val (.int (3 : Int32)), .val (.int (Int32.ofNat 3)), .val (.int (3 : Int32)), .val (.int (f (2)))] [(.int (3 : Int32))])
        refine Goes.step (fun _ k => XS.iload X3.here hx rfl (hb hby d5_5) rfl k) ?_
        refine Goes.step (fun _ k => XS.icmpYes X3.here hx rfl (pc0 := 7) (pc' := 44) rfl (hb hby d5_7) rfl (flt (by decide : ¬ ((3 : Int32) < (Int32.ofNat 3)))).2.1 (by decide) (by decide) k) ?_
        show Goes p e below s _ _ _ T3 (mkF m 44 #[.val (.ref a1), .val (.int (3 : Int32)), .val (.ref a3), .val (.int (3 : Int32)), .val (.int (Int32.ofNat 3)), .val (.int (3 : Int32)), .val (.int (f (2)))] [])
        refine Goes.step (fun _ k => XS.iload X3.here hx rfl (hb hby d5_44) rfl k) ?_
        show Goes p e below s _ _ _ T3 (mkF m 46 #[.val (.ref a1), .val (.int (3 : Int32)), .val (.ref a3), .val (.int (3 : Int32)), .val (.int (Int32.ofNat 3)), .val (.int (3 : Int32)), .val (.int (f (2)))] [(.int (Int32.ofNat 3))])
        have hall : ∀ j, j < 3 → ¬ ((255 : Int32) < f j) := fun j hj => by
          obtain rfl | rfl | rfl : j = 0 ∨ j = 1 ∨ j = 2 := by omega
          · exact hc20
          · exact hc20_1
          · exact hc20_2
        exact Goes.outI X3 hx hlk Bd.returns (hb hby d5_46) (by rw [e3]; exact ⟨3, rfl, N_3, K_3, Or.inl ⟨rfl, hall, A_a3_3.cast (own_cp3 f g)⟩⟩) (by decide) (by decide)
theorem pd_4n3_0 : parseMethodDescriptor "([CI[BII)I" = some ⟨[(.array .char), .int, (.array .byte), .int, .int], some .int⟩ := by decide +kernel
theorem pd_4n3_1 : parseMethodDescriptor "([CII)[B" = some ⟨[(.array .char), .int, .int], some (.array .byte)⟩ := by decide +kernel
theorem pd_4n3_2 : parseMethodDescriptor "([BI)C" = some ⟨[(.array .byte), .int], some .char⟩ := by decide +kernel
theorem ef_4n3 (m : MethodId) (a1 : Addr) : entryFrame m #[(.ref a1), (.int (0 : Int32)), (.int (Int32.ofNat 3))] 6 = mkF m 0 #[.val (.ref a1), .val (.int (0 : Int32)), .val (.int (Int32.ofNat 3)), .unset, .unset, .unset] [] := by first | (simp [entryFrame, mkF, argsToLocals, Value.category]; done) | rfl
def Q4n3 (Z : State) (a1 : Addr) (f : Nat → Int32) (h0 : Heap) (n0 : Nat) (v : Option Value) (h : Heap) (L : List Loc) : Prop := ∃ o, v = some (.ref o) ∧ Fr n0 L ∧ Keep h0 h [] ∧ h0.size ≤ o ∧ ((Ari Z h o .byte 3 (fun j => own_bb (f j)) ∧ ∀ j, j < 3 → ¬ ((255 : Int32) < f j)) ∨ Ari Z h o .byte (2 * 3) (own_u f))
set_option maxRecDepth 65536 in
set_option maxHeartbeats 40000000 in
theorem rm4n3 (l : Launch) (Z : State) (a0 : Array Value) (hw : ∀ d ∈ tables_1, d.before a0 Z = true) (ws : List Jvm.Cond) (a1 : Addr) (f : Nat → Int32) (h0 : Heap) (n0 : Nat) (Z0 : n0 ≤ h0.size) (OL : Old Z n0 h0) (O5 : Sta Z Z.heap "java/lang/StringUTF16" "$assertionsDisabled" "Z" (.int (1 : Int32))) (O6 : Sta Z Z.heap "java/lang/StringUTF16" "HI_BYTE_SHIFT" "I" (.int (0 : Int32))) (O7 : Sta Z Z.heap "java/lang/StringUTF16" "LO_BYTE_SHIFT" "I" (.int (8 : Int32))) (A_a1_0 : Ari Z h0 a1 .char 3 f) (rg : own_rg 3 f) :
    MetFree l (⟨"java/lang/StringUTF16", "compress", "([CII)[B"⟩ : MethodName) (head1 (Jvm.Cond.code (⟨"java/lang/StringUTF16", "compress", "([CII)[B"⟩ : MethodName) jdk_52_method_16_code 6 (some (.array .byte)) :: ws) ({ frames := 3, cells := 2, slots := 11, locals := 40 } : Room)) (fun a U => a = #[(.ref a1), (.int (0 : Int32)), (.int (Int32.ofNat 3))] ∧ Z.Warmed39 U.vm ∧ U.heap = h0) (fun _ _ _ _ _ => True) (fun _ U o U' => ∃ v L, o = .returned v ∧ Q4n3 Z a1 f h0 n0 v U'.heap L ∧ FrameEnd U o U' L ({ frames := 3, cells := 2, slots := 11, locals := 40 } : Room).cells ({ frames := 3, cells := 2, slots := 11, locals := 40 } : Room).slots) := by
  refine MetFree.of_bodySF (plainFor_of_name pn_4) hisR ?_
  intro p e s m args below meth c s₁ Bd hml0 hP hK
  obtain ⟨rfl, hZ, hh⟩ := hP
  have hx := Bd.exec
  have hby := Bd.bytes
  have hlk := Bd.notSynchronized
  have hml : c.maxLocals = 6 := hml0
  have hown : s.vm.findClass "java/lang/StringUTF16" = some m.cls := findClass_of_methodNamed Bd.named
  have hnm := (name_of_methodNamed Bd.named Bd.method).1
  have X0 : Stand p l e ({ frames := 3, cells := 2, slots := 11, locals := 40 } : Room) s m #[(.ref a1), (.int (0 : Int32)), (.int (Int32.ofNat 3))] below meth c s₁ [] 0 0 := Stand.of_body Bd
  have e0 : s₁.heap = h0 := by rw [← hh, Bd.state]; rfl
  have N0 := Fr.nil n0
  have K0 : Keep h0 h0 [] := Keep.refl h0 _
  show Goes p e below s ({ frames := 3, cells := 2, slots := 11, locals := 40 } : Room).cells ({ frames := 3, cells := 2, slots := 11, locals := 40 } : Room).slots (Q4n3 Z a1 f h0 n0) s₁ (entryFrame m #[(.ref a1), (.int (0 : Int32)), (.int (Int32.ofNat 3))] 6)
  refine Goes.step (fun t k => castTop (ef_4n3 m a1) k) ?_
  refine Goes.step (fun _ k => XS.iloadN X0.here hx rfl (hb hby d4_0) rfl k) ?_
  obtain ⟨T1, h1, X1, e1, E1, A1, st1⟩ := newI X0 hx hZ (hw _ (List.mem_of_getElem? (i := 21) rfl)) e0 (g := (mkF m 1 #[.val (.ref a1), .val (.int (0 : Int32)), .val (.int (Int32.ofNat 3)), .unset, .unset, .unset] [(.int (Int32.ofNat 3))])) rfl (hb hby d4_1) rfl (N := 3) rfl (cap := 3) (by decide) (by decide) (by decide) (by decide) rfl (by decide)
  obtain ⟨b1, g_1⟩ : ∃ z, z = h0.size := ⟨_, rfl⟩
  rw [← g_1] at A1 st1
  refine Goes.step st1 ?_
  have ne_a1_b1 : a1 ≠ b1 := Nat.ne_of_lt (by rw [g_1]; exact A_a1_0.lt)
  have ge_b1 : n0 ≤ b1 := by rw [g_1]; exact Z0
  have sz_b1 : h0.size ≤ b1 := by rw [g_1]; exact K0.1
  have A_a1_1 := A_a1_0.ext E1
  have z_1 : n0 ≤ h1.size := Nat.le_trans Z0 E1.1
  have K_1 : Keep h0 h1 [] := K0.ext E1
  have A_b1_1 : Ari Z h1 b1 .byte (3) (fun _ => 0) := A1
  show Goes p e below s _ _ _ T1 (mkF m 3 #[.val (.ref a1), .val (.int (0 : Int32)), .val (.int (Int32.ofNat 3)), .unset, .unset, .unset] [(.ref b1)])
  refine Goes.step (fun _ k => XS.astoreN X1.here hx rfl (hb hby d4_3) rfl rfl (l' := #[.val (.ref a1), .val (.int (0 : Int32)), .val (.int (Int32.ofNat 3)), .val (.ref b1), .unset, .unset]) rfl k) ?_
  refine Goes.step (fun _ k => XS.aloadN X1.here hx rfl (hb hby d4_4) rfl rfl k) ?_
  show Goes p e below s _ _ _ T1 (mkF m 5 #[.val (.ref a1), .val (.int (0 : Int32)), .val (.int (Int32.ofNat 3)), .val (.ref b1), .unset, .unset] [(.ref a1)])
  refine Goes.step (fun _ k => XS.iloadN X1.here hx rfl (hb hby d4_5) rfl k) ?_
  refine Goes.step (fun _ k => XS.aloadN X1.here hx rfl (hb hby d4_6) rfl rfl k) ?_
  show Goes p e below s _ _ _ T1 (mkF m 7 #[.val (.ref a1), .val (.int (0 : Int32)), .val (.int (Int32.ofNat 3)), .val (.ref b1), .unset, .unset] [(.ref b1), (.int (0 : Int32)), (.ref a1)])
  refine Goes.step (fun _ k => XS.iconst X1.here hx rfl (hb hby d4_7) k) ?_
  refine Goes.step (fun _ k => XS.iloadN X1.here hx rfl (hb hby d4_8) rfl k) ?_
  show Goes p e below s _ _ _ T1 (mkF m 9 #[.val (.ref a1), .val (.int (0 : Int32)), .val (.int (Int32.ofNat 3)), .val (.ref b1), .unset, .unset] [(.int (Int32.ofNat 3)), (.int (0 : Int32)), (.ref b1), (.int (0 : Int32)), (.ref a1)])
  obtain ⟨v2, T2, h2, L2, X2, e2, Q2, st2⟩ := callX X1 hx hZ (y := (⟨"java/lang/StringUTF16", "compress", "([CI[BII)I"⟩ : MethodName)) hown (hw _ (List.mem_of_getElem? (i := 22) rfl)) (hw _ (List.mem_of_getElem? (i := 23) rfl)) (hw _ (List.mem_of_getElem? (i := 19) rfl)) (hw _ (List.mem_of_getElem? (i := 24) rfl)) (by decide) (W := 0) (argsL := [(.ref a1), (.int (0 : Int32)), (.ref b1), (.int (0 : Int32)), (.int (Int32.ofNat 3))]) (rest := []) (rm5n3 l Z a0 hw [] a1 b1 f (fun _ => 0) h1 n0 z_1 A_a1_1 A_b1_1 ne_a1_b1 ge_b1) (by decide) (by decide) (by decide) (by decide) e1 (g := (mkF m 9 #[.val (.ref a1), .val (.int (0 : Int32)), .val (.int (Int32.ofNat 3)), .val (.ref b1), .unset, .unset] [(.int (Int32.ofNat 3)), (.int (0 : Int32)), (.ref b1), (.int (0 : Int32)), (.ref a1)])) rfl (by rw [hml]; rfl) (lenOf pd_4n3_0 rfl) rfl (by show 2 * 0 + _ ≤ _; exact Nat.le_of_eq rfl) (hb hby d4_9)
  obtain ⟨r2, rfl, NQ2, KQ2, hR2⟩ := Q2
  refine Goes.step st2 ?_
  have A_a1_2 := A_a1_1.keep KQ2 (ninS ne_a1_b1 nin0)
  have z_2 : n0 ≤ h2.size := Nat.le_trans z_1 KQ2.1
  have K_2 : Keep h0 h2 [] := Keep.trans K_1 KQ2 (allS (Or.inr sz_b1) all0)
  have N_2 := Fr.app N0 NQ2
  show Goes p e below s _ _ _ T2 (mkF m 12 #[.val (.ref a1), .val (.int (0 : Int32)), .val (.int (Int32.ofNat 3)), .val (.ref b1), .unset, .unset] [(.int (Int32.ofNat r2))])
  rcases hR2 with ⟨hr, hall, hAr⟩ | ⟨hlt, hgt⟩
  · subst hr
    refine Goes.step (fun _ k => XS.istore X2.here hx rfl (hb hby d4_12) rfl (l' := #[.val (.ref a1), .val (.int (0 : Int32)), .val (.int (Int32.ofNat 3)), .val (.ref b1), .val (.int (Int32.ofNat 3)), .unset]) rfl k) ?_
    refine Goes.step (fun _ k => XS.iload X2.here hx rfl (hb hby d4_14) rfl k) ?_
    show Goes p e below s _ _ _ T2 (mkF m 16 #[.val (.ref a1), .val (.int (0 : Int32)), .val (.int (Int32.ofNat 3)), .val (.ref b1), .val (.int (Int32.ofNat 3)), .unset] [(.int (Int32.ofNat 3))])
    refine Goes.step (fun _ k => XS.iloadN X2.here hx rfl (hb hby d4_16) rfl k) ?_
    refine Goes.step (fun _ k => XS.icmpYes X2.here hx rfl (pc0 := 17) (pc' := 57) rfl (hb hby d4_17) rfl (teq (by decide : (Int32.ofNat 3) = (Int32.ofNat 3))).1 (by decide) (by decide) k) ?_
    show Goes p e below s _ _ _ T2 (mkF m 57 #[.val (.ref a1), .val (.int (0 : Int32)), .val (.int (Int32.ofNat 3)), .val (.ref b1), .val (.int (Int32.ofNat 3)), .unset] [])
    refine Goes.step (fun _ k => XS.aloadN X2.here hx rfl (hb hby d4_57) rfl rfl k) ?_
    show Goes p e below s _ _ _ T2 (mkF m 58 #[.val (.ref a1), .val (.int (0 : Int32)), .val (.int (Int32.ofNat 3)), .val (.ref b1), .val (.int (Int32.ofNat 3)), .unset] [(.ref b1)])
    exact Goes.outR X2 hx hlk Bd.returns rfl rfl (hb hby d4_58) (by rw [e2]; exact ⟨b1, rfl, N_2, K_2, sz_b1, Or.inl ⟨hAr, hall⟩⟩) (by decide) (by decide)
  · have hlt0 := hlt
    refine Goes.step (fun _ k => XS.istore X2.here hx rfl (hb hby d4_12) rfl (l' := #[.val (.ref a1), .val (.int (0 : Int32)), .val (.int (Int32.ofNat 3)), .val (.ref b1), .val (.int (Int32.ofNat r2)), .unset]) rfl k) ?_
    refine Goes.step (fun _ k => XS.iload X2.here hx rfl (hb hby d4_14) rfl k) ?_
    show Goes p e below s _ _ _ T2 (mkF m 16 #[.val (.ref a1), .val (.int (0 : Int32)), .val (.int (Int32.ofNat 3)), .val (.ref b1), .val (.int (Int32.ofNat r2)), .unset] [(.int (Int32.ofNat r2))])
    refine Goes.step (fun _ k => XS.iloadN X2.here hx rfl (hb hby d4_16) rfl k) ?_
    refine Goes.step (fun _ k => XS.icmpNo X2.here hx rfl (hb hby d4_17) rfl (feq (own_neq hlt (by decide) rfl)).1 k) ?_
    show Goes p e below s _ _ _ T2 (mkF m 20 #[.val (.ref a1), .val (.int (0 : Int32)), .val (.int (Int32.ofNat 3)), .val (.ref b1), .val (.int (Int32.ofNat r2)), .unset] [])
    refine Goes.step (fun _ k => XS.aloadN X2.here hx rfl (hb hby d4_20) rfl rfl k) ?_
    refine Goes.step (fun _ k => XS.iloadN X2.here hx rfl (hb hby d4_21) rfl k) ?_
    show Goes p e below s _ _ _ T2 (mkF m 22 #[.val (.ref a1), .val (.int (0 : Int32)), .val (.int (Int32.ofNat 3)), .val (.ref b1), .val (.int (Int32.ofNat r2)), .unset] [(.int (0 : Int32)), (.ref a1)])
    refine Goes.step (fun _ k => XS.iloadN X2.here hx rfl (hb hby d4_22) rfl k) ?_
    obtain ⟨v3, T3, h3, L3, X3, e3, Q3, st3⟩ := callX X2 hx hZ (y := (⟨"java/lang/StringUTF16", "toBytes", "([CII)[B"⟩ : MethodName)) hown (hw _ (List.mem_of_getElem? (i := 75) rfl)) (hw _ (List.mem_of_getElem? (i := 76) rfl)) (hw _ (List.mem_of_getElem? (i := 19) rfl)) (hw _ (List.mem_of_getElem? (i := 77) rfl)) (by decide) (W := 0) (argsL := [(.ref a1), (.int (0 : Int32)), (.int (Int32.ofNat 3))]) (rest := []) (rm17n3 l Z a0 hw [] a1 f h2 n0 z_2 (OL.keep K_2 all0) O5 O6 O7 A_a1_2) (by decide) (by decide) (by decide) (by decide) e2 (g := (mkF m 23 #[.val (.ref a1), .val (.int (0 : Int32)), .val (.int (Int32.ofNat 3)), .val (.ref b1), .val (.int (Int32.ofNat r2)), .unset] [(.int (Int32.ofNat 3)), (.int (0 : Int32)), (.ref a1)])) rfl (by rw [hml]; rfl) (lenOf pd_4n3_1 rfl) rfl (by show 2 * 0 + _ ≤ _; exact Nat.le_of_eq rfl) (hb hby d4_23)
    obtain ⟨o3, rfl, NQ3, KQ3, so3, hA3⟩ := Q3
    refine Goes.step st3 ?_
    have A_a1_3 := A_a1_2.keep KQ3 nin0
    have z_3 : n0 ≤ h3.size := Nat.le_trans z_2 KQ3.1
    have K_3 : Keep h0 h3 [] := Keep.trans K_2 KQ3 all0
    have N_3 := Fr.app N_2 NQ3
    have ne_o3_a1 : o3 ≠ a1 := Nat.ne_of_gt (Nat.lt_of_lt_of_le A_a1_2.lt so3)
    have ge_o3 : n0 ≤ o3 := Nat.le_trans z_2 so3
    have sz_o3 : h0.size ≤ o3 := Nat.le_trans K_2.1 so3
    show Goes p e below s _ _ _ T3 (mkF m 26 #[.val (.ref a1), .val (.int (0 : Int32)), .val (.int (Int32.ofNat 3)), .val (.ref b1), .val (.int (Int32.ofNat r2)), .unset] [(.ref o3)])
    refine Goes.step (fun _ k => XS.astore X3.here hx rfl (hb hby d4_26) rfl rfl (l' := #[.val (.ref a1), .val (.int (0 : Int32)), .val (.int (Int32.ofNat 3)), .val (.ref b1), .val (.int (Int32.ofNat r2)), .val (.ref o3)]) rfl k) ?_
    refine Goes.step (fun _ k => XS.aload X3.here hx rfl (hb hby d4_28) rfl rfl k) ?_
    show Goes p e below s _ _ _ T3 (mkF m 30 #[.val (.ref a1), .val (.int (0 : Int32)), .val (.int (Int32.ofNat 3)), .val (.ref b1), .val (.int (Int32.ofNat r2)), .val (.ref o3)] [(.ref o3)])
    refine Goes.step (fun _ k => XS.iload X3.here hx rfl (hb hby d4_30) rfl k) ?_
    obtain ⟨T4, X4, e4, st4⟩ := own_pure (r := some (.int (own_g1 ((own_u f) (2 * r2)) ((own_u f) (2 * r2 + 1))))) (fun _ _ _ q => q) (callX X3 hx hZ (y := (⟨"java/lang/StringUTF16", "getChar", "([BI)C"⟩ : MethodName)) hown (hw _ (List.mem_of_getElem? (i := 91) rfl)) (hw _ (List.mem_of_getElem? (i := 92) rfl)) (hw _ (List.mem_of_getElem? (i := 19) rfl)) (hw _ (List.mem_of_getElem? (i := 93) rfl)) (by decide) (W := 0) (argsL := [(.ref o3), (.int (Int32.ofNat r2))]) (rest := []) (rm21 l Z a0 hw [] o3 (Int32.ofNat r2) r2 3 (own_u f) h3 n0 z_3 (OL.keep K_3 all0) O5 O6 O7 hA3 rfl hlt (by decide)) (by decide) (by decide) (by decide) (by decide) e3 (g := (mkF m 32 #[.val (.ref a1), .val (.int (0 : Int32)), .val (.int (Int32.ofNat 3)), .val (.ref b1), .val (.int (Int32.ofNat r2)), .val (.ref o3)] [(.int (Int32.ofNat r2)), (.ref o3)])) rfl (by rw [hml]; rfl) (lenOf pd_4n3_2 rfl) rfl (by show 2 * 0 + _ ≤ _; exact Nat.le_of_eq rfl) (hb hby d4_32))
    refine Goes.step st4 ?_
    show Goes p e below s _ _ _ T4 (mkF m 35 #[.val (.ref a1), .val (.int (0 : Int32)), .val (.int (Int32.ofNat 3)), .val (.ref b1), .val (.int (Int32.ofNat r2)), .val (.ref o3)] [(.int (own_g1 ((own_u f) (2 * r2)) ((own_u f) (2 * r2 + 1))))])
    refine Goes.step (fun _ k => XS.sipush X4.here hx rfl (hb hby d4_35) k) ?_
    refine Goes.step (fun _ k => XS.icmpYes X4.here hx rfl (pc0 := 38) (pc' := 54) rfl (hb hby d4_38) rfl (tlt (own_gt rg hlt hgt)).2.2.1 (by decide) (by decide) k) ?_
    show Goes p e below s _ _ _ T4 (mkF m 54 #[.val (.ref a1), .val (.int (0 : Int32)), .val (.int (Int32.ofNat 3)), .val (.ref b1), .val (.int (Int32.ofNat r2)), .val (.ref o3)] [])
    refine Goes.step (fun _ k => XS.aload X4.here hx rfl (hb hby d4_54) rfl rfl k) ?_
    show Goes p e below s _ _ _ T4 (mkF m 56 #[.val (.ref a1), .val (.int (0 : Int32)), .val (.int (Int32.ofNat 3)), .val (.ref b1), .val (.int (Int32.ofNat r2)), .val (.ref o3)] [(.ref o3)])
    exact Goes.outR X4 hx hlk Bd.returns rfl rfl (hb hby d4_56) (by rw [e4]; exact ⟨o3, rfl, N_3, K_3, sz_o3, Or.inr hA3⟩) (by decide) (by decide)
theorem own_tb4 (f : Nat → Int32) (j : Nat) (hj : j < 2 * 4) : (updI (updI (updI (updI (updI (updI (updI (updI (fun _ => 0) (2 * 0) (own_bb ((f (0)) >>> ((0 : Int32) &&& 31)))) (2 * 0 + 1) (own_bb ((f (0)) >>> ((8 : Int32) &&& 31)))) (2 * 1) (own_bb ((f (1)) >>> ((0 : Int32) &&& 31)))) (2 * 1 + 1) (own_bb ((f (1)) >>> ((8 : Int32) &&& 31)))) (2 * 2) (own_bb ((f (2)) >>> ((0 : Int32) &&& 31)))) (2 * 2 + 1) (own_bb ((f (2)) >>> ((8 : Int32) &&& 31)))) (2 * 3) (own_bb ((f (3)) >>> ((0 : Int32) &&& 31)))) (2 * 3 + 1) (own_bb ((f (3)) >>> ((8 : Int32) &&& 31)))) j = own_u f j := by
  obtain rfl | rfl | rfl | rfl | rfl | rfl | rfl | rfl : j = 0 ∨ j = 1 ∨ j = 2 ∨ j = 3 ∨ j = 4 ∨ j = 5 ∨ j = 6 ∨ j = 7 := by omega
  all_goals simp [updI, own_u]
theorem pd_17n4_0 : parseMethodDescriptor "(I)[B" = some ⟨[.int], some (.array .byte)⟩ := by decide +kernel
theorem pd_17n4_1 : parseMethodDescriptor "([BII)V" = some ⟨[(.array .byte), .int, .int], none⟩ := by decide +kernel
theorem ef_17n4 (m : MethodId) (a1 : Addr) : entryFrame m #[(.ref a1), (.int (0 : Int32)), (.int (Int32.ofNat 4))] 5 = mkF m 0 #[.val (.ref a1), .val (.int (0 : Int32)), .val (.int (Int32.ofNat 4)), .unset, .unset] [] := by first | (simp [entryFrame, mkF, argsToLocals, Value.category]; done) | rfl
def Q17n4 (Z : State) (a1 : Addr) (f : Nat → Int32) (h0 : Heap) (n0 : Nat) (v : Option Value) (h : Heap) (L : List Loc) : Prop := ∃ o, v = some (.ref o) ∧ Fr n0 L ∧ Keep h0 h [] ∧ h0.size ≤ o ∧ Ari Z h o .byte (2 * 4) (own_u f)
set_option maxRecDepth 65536 in
set_option maxHeartbeats 40000000 in
theorem rm17n4 (l : Launch) (Z : State) (a0 : Array Value) (hw : ∀ d ∈ tables_1, d.before a0 Z = true) (ws : List Jvm.Cond) (a1 : Addr) (f : Nat → Int32) (h0 : Heap) (n0 : Nat) (Z0 : n0 ≤ h0.size) (OL : Old Z n0 h0) (O5 : Sta Z Z.heap "java/lang/StringUTF16" "$assertionsDisabled" "Z" (.int (1 : Int32))) (O6 : Sta Z Z.heap "java/lang/StringUTF16" "HI_BYTE_SHIFT" "I" (.int (0 : Int32))) (O7 : Sta Z Z.heap "java/lang/StringUTF16" "LO_BYTE_SHIFT" "I" (.int (8 : Int32))) (A_a1_0 : Ari Z h0 a1 .char 4 f) :
    MetFree l (⟨"java/lang/StringUTF16", "toBytes", "([CII)[B"⟩ : MethodName) (head1 (Jvm.Cond.code (⟨"java/lang/StringUTF16", "toBytes", "([CII)[B"⟩ : MethodName) jdk_52_method_14_code 5 (some (.array .byte)) :: ws) ({ frames := 2, cells := 1, slots := 8, locals := 24 } : Room)) (fun a U => a = #[(.ref a1), (.int (0 : Int32)), (.int (Int32.ofNat 4))] ∧ Z.Warmed39 U.vm ∧ U.heap = h0) (fun _ _ _ _ _ => True) (fun _ U o U' => ∃ v L, o = .returned v ∧ Q17n4 Z a1 f h0 n0 v U'.heap L ∧ FrameEnd U o U' L ({ frames := 2, cells := 1, slots := 8, locals := 24 } : Room).cells ({ frames := 2, cells := 1, slots := 8, locals := 24 } : Room).slots) := by
  refine MetFree.of_bodySF (plainFor_of_name pn_17) hisR ?_
  intro p e s m args below meth c s₁ Bd hml0 hP hK
  obtain ⟨rfl, hZ, hh⟩ := hP
  have hx := Bd.exec
  have hby := Bd.bytes
  have hlk := Bd.notSynchronized
  have hml : c.maxLocals = 5 := hml0
  have hown : s.vm.findClass "java/lang/StringUTF16" = some m.cls := findClass_of_methodNamed Bd.named
  have hnm := (name_of_methodNamed Bd.named Bd.method).1
  have X0 : Stand p l e ({ frames := 2, cells := 1, slots := 8, locals := 24 } : Room) s m #[(.ref a1), (.int (0 : Int32)), (.int (Int32.ofNat 4))] below meth c s₁ [] 0 0 := Stand.of_body Bd
  have e0 : s₁.heap = h0 := by rw [← hh, Bd.state]; rfl
  have N0 := Fr.nil n0
  have K0 : Keep h0 h0 [] := Keep.refl h0 _
  show Goes p e below s ({ frames := 2, cells := 1, slots := 8, locals := 24 } : Room).cells ({ frames := 2, cells := 1, slots := 8, locals := 24 } : Room).slots (Q17n4 Z a1 f h0 n0) s₁ (entryFrame m #[(.ref a1), (.int (0 : Int32)), (.int (Int32.ofNat 4))] 5)
  refine Goes.step (fun t k => castTop (ef_17n4 m a1) k) ?_
  refine Goes.step (fun _ k => XS.iloadN X0.here hx rfl (hb hby d17_0) rfl k) ?_
  obtain ⟨v1, T1, h1, L1, X1, e1, Q1, st1⟩ := callX X0 hx hZ (y := (⟨"java/lang/StringUTF16", "newBytesFor", "(I)[B"⟩ : MethodName)) hown (hw _ (List.mem_of_getElem? (i := 78) rfl)) (hw _ (List.mem_of_getElem? (i := 79) rfl)) (hw _ (List.mem_of_getElem? (i := 19) rfl)) (hw _ (List.mem_of_getElem? (i := 80) rfl)) (by decide) (W := 0) (argsL := [(.int (Int32.ofNat 4))]) (rest := []) (rm18 l Z a0 hw [] (Int32.ofNat 4) 4 h0 n0 Z0 rfl (by decide)) (by decide) (by decide) (by decide) (by decide) e0 (g := (mkF m 1 #[.val (.ref a1), .val (.int (0 : Int32)), .val (.int (Int32.ofNat 4)), .unset, .unset] [(.int (Int32.ofNat 4))])) rfl (by rw [hml]; rfl) (lenOf pd_17n4_0 rfl) rfl (by show 2 * 0 + _ ≤ _; exact Nat.le_of_eq rfl) (hb hby d17_1)
  obtain ⟨o1, rfl, NQ1, KQ1, so1, hA1⟩ := Q1
  refine Goes.step st1 ?_
  have A_a1_1 := A_a1_0.keep KQ1 nin0
  have z_1 : n0 ≤ h1.size := Nat.le_trans Z0 KQ1.1
  have K_1 : Keep h0 h1 [] := Keep.trans K0 KQ1 all0
  have N_1 := Fr.app N0 NQ1
  have ne_o1_a1 : o1 ≠ a1 := Nat.ne_of_gt (Nat.lt_of_lt_of_le A_a1_0.lt so1)
  have ge_o1 : n0 ≤ o1 := Nat.le_trans Z0 so1
  have sz_o1 : h0.size ≤ o1 := Nat.le_trans K0.1 so1
  show Goes p e below s _ _ _ T1 (mkF m 4 #[.val (.ref a1), .val (.int (0 : Int32)), .val (.int (Int32.ofNat 4)), .unset, .unset] [(.ref o1)])
  refine Goes.step (fun _ k => XS.astoreN X1.here hx rfl (hb hby d17_4) rfl rfl (l' := #[.val (.ref a1), .val (.int (0 : Int32)), .val (.int (Int32.ofNat 4)), .val (.ref o1), .unset]) rfl k) ?_
  refine Goes.step (fun _ k => XS.iconst X1.here hx rfl (hb hby d17_5) k) ?_
  show Goes p e below s _ _ _ T1 (mkF m 6 #[.val (.ref a1), .val (.int (0 : Int32)), .val (.int (Int32.ofNat 4)), .val (.ref o1), .unset] [(.int (0 : Int32))])
  refine Goes.step (fun _ k => XS.istore X1.here hx rfl (hb hby d17_6) rfl (l' := #[.val (.ref a1), .val (.int (0 : Int32)), .val (.int (Int32.ofNat 4)), .val (.ref o1), .val (.int (0 : Int32))]) rfl k) ?_
  refine Goes.step (fun _ k => XS.iload X1.here hx rfl (hb hby d17_8) rfl k) ?_
  show Goes p e below s _ _ _ T1 (mkF m 10 #[.val (.ref a1), .val (.int (0 : Int32)), .val (.int (Int32.ofNat 4)), .val (.ref o1), .val (.int (0 : Int32))] [(.int (0 : Int32))])
  refine Goes.step (fun _ k => XS.iloadN X1.here hx rfl (hb hby d17_10) rfl k) ?_
  refine Goes.step (fun _ k => XS.icmpNo X1.here hx rfl (hb hby d17_11) rfl (tlt (by decide : (0 : Int32) < (Int32.ofNat 4))).2.1 k) ?_
  show Goes p e below s _ _ _ T1 (mkF m 14 #[.val (.ref a1), .val (.int (0 : Int32)), .val (.int (Int32.ofNat 4)), .val (.ref o1), .val (.int (0 : Int32))] [])
  refine Goes.step (fun _ k => XS.aloadN X1.here hx rfl (hb hby d17_14) rfl rfl k) ?_
  refine Goes.step (fun _ k => XS.iload X1.here hx rfl (hb hby d17_15) rfl k) ?_
  show Goes p e below s _ _ _ T1 (mkF m 17 #[.val (.ref a1), .val (.int (0 : Int32)), .val (.int (Int32.ofNat 4)), .val (.ref o1), .val (.int (0 : Int32))] [(.int (0 : Int32)), (.ref o1)])
  refine Goes.step (fun _ k => XS.aloadN X1.here hx rfl (hb hby d17_17) rfl rfl k) ?_
  refine Goes.step (fun _ k => XS.iloadN X1.here hx rfl (hb hby d17_18) rfl k) ?_
  show Goes p e below s _ _ _ T1 (mkF m 19 #[.val (.ref a1), .val (.int (0 : Int32)), .val (.int (Int32.ofNat 4)), .val (.ref o1), .val (.int (0 : Int32))] [(.int (0 : Int32)), (.ref a1), (.int (0 : Int32)), (.ref o1)])
  refine Goes.step (fun _ k => rdC X1 hx hZ e1 A_a1_1 (0) rfl (by decide) (g := (mkF m 19 #[.val (.ref a1), .val (.int (0 : Int32)), .val (.int (Int32.ofNat 4)), .val (.ref o1), .val (.int (0 : Int32))] [(.int (0 : Int32)), (.ref a1), (.int (0 : Int32)), (.ref o1)])) rfl rfl (hb hby d17_19) _ k) ?_
  show Goes p e below s _ _ _ T1 (mkF m 20 #[.val (.ref a1), .val (.int (0 : Int32)), .val (.int (Int32.ofNat 4)), .val (.ref o1), .val (.int (0 : Int32))] [(.int (f (0))), (.int (0 : Int32)), (.ref o1)])
  obtain ⟨v2, T2, h2, L2, X2, e2, Q2, st2⟩ := callX X1 hx hZ (y := (⟨"java/lang/StringUTF16", "putChar", "([BII)V"⟩ : MethodName)) hown (hw _ (List.mem_of_getElem? (i := 85) rfl)) (hw _ (List.mem_of_getElem? (i := 86) rfl)) (hw _ (List.mem_of_getElem? (i := 19) rfl)) (hw _ (List.mem_of_getElem? (i := 87) rfl)) (by decide) (W := 0) (argsL := [(.ref o1), (.int (0 : Int32)), (.int (f (0)))]) (rest := []) (rm20 l Z a0 hw [] o1 (0 : Int32) (f (0)) 0 4 (fun _ => 0) h1 n0 z_1 (OL.keep K_1 all0) O5 O6 O7 hA1 rfl (by decide) (by decide) ge_o1) (by decide) (by decide) (by decide) (by decide) e1 (g := (mkF m 20 #[.val (.ref a1), .val (.int (0 : Int32)), .val (.int (Int32.ofNat 4)), .val (.ref o1), .val (.int (0 : Int32))] [(.int (f (0))), (.int (0 : Int32)), (.ref o1)])) rfl (by rw [hml]; rfl) (lenOf pd_17n4_1 rfl) rfl (by show 2 * 0 + _ ≤ _; exact Nat.le_of_eq rfl) (hb hby d17_20)
  obtain ⟨rfl, NQ2, KQ2, hA2⟩ := Q2
  refine Goes.step st2 ?_
  have A_a1_2 := A_a1_1.keep KQ2 (ninS (Ne.symm ne_o1_a1) nin0)
  have z_2 : n0 ≤ h2.size := Nat.le_trans z_1 KQ2.1
  have K_2 : Keep h0 h2 [] := Keep.trans K_1 KQ2 (allS (Or.inr sz_o1) all0)
  have N_2 := Fr.app N_1 NQ2
  show Goes p e below s _ _ _ T2 (mkF m 23 #[.val (.ref a1), .val (.int (0 : Int32)), .val (.int (Int32.ofNat 4)), .val (.ref o1), .val (.int (0 : Int32))] [])
  refine Goes.step (fun _ k => XS.iinc X2.here hx rfl (hb hby d17_23) rfl (l' := #[.val (.ref a1), .val (.int (1 : Int32)), .val (.int (Int32.ofNat 4)), .val (.ref o1), .val (.int (0 : Int32))]) rfl k) ?_
  show Goes p e below s _ _ _ T2 (mkF m 26 #[.val (.ref a1), .val (.int (1 : Int32)), .val (.int (Int32.ofNat 4)), .val (.ref o1), .val (.int (0 : Int32))] [])
  refine Goes.step (fun _ k => XS.iinc X2.here hx rfl (hb hby d17_26) rfl (l' := #[.val (.ref a1), .val (.int (1 : Int32)), .val (.int (Int32.ofNat 4)), .val (.ref o1), .val (.int (1 : Int32))]) rfl k) ?_
  show Goes p e below s _ _ _ T2 (mkF m 29 #[.val (.ref a1), .val (.int (1 : Int32)), .val (.int (Int32.ofNat 4)), .val (.ref o1), .val (.int (1 : Int32))] [])
  refine Goes.step (fun _ k => XS.goto X2.here hx rfl (pc0 := 29) (pc' := 8) rfl (hb hby d17_29) (by decide) (by decide) k) ?_
  refine Goes.step (fun _ k => XS.iload X2.here hx rfl (hb hby d17_8) rfl k) ?_
  show Goes p e below s _ _ _ T2 (mkF m 10 #[.val (.ref a1), .val (.int (1 : Int32)), .val (.int (Int32.ofNat 4)), .val (.ref o1), .val (.int (1 : Int32))] [(.int (1 : Int32))])
  refine Goes.step (fun _ k => XS.iloadN X2.here hx rfl (hb hby d17_10) rfl k) ?_
  refine Goes.step (fun _ k => XS.icmpNo X2.here hx rfl (hb hby d17_11) rfl (tlt (by decide : (1 : Int32) < (Int32.ofNat 4))).2.1 k) ?_
  show Goes p e below s _ _ _ T2 (mkF m 14 #[.val (.ref a1), .val (.int (1 : Int32)), .val (.int (Int32.ofNat 4)), .val (.ref o1), .val (.int (1 : Int32))] [])
  refine Goes.step (fun _ k => XS.aloadN X2.here hx rfl (hb hby d17_14) rfl rfl k) ?_
  refine Goes.step (fun _ k => XS.iload X2.here hx rfl (hb hby d17_15) rfl k) ?_
  show Goes p e below s _ _ _ T2 (mkF m 17 #[.val (.ref a1), .val (.int (1 : Int32)), .val (.int (Int32.ofNat 4)), .val (.ref o1), .val (.int (1 : Int32))] [(.int (1 : Int32)), (.ref o1)])
  refine Goes.step (fun _ k => XS.aloadN X2.here hx rfl (hb hby d17_17) rfl rfl k) ?_
  refine Goes.step (fun _ k => XS.iloadN X2.here hx rfl (hb hby d17_18) rfl k) ?_
  show Goes p e below s _ _ _ T2 (mkF m 19 #[.val (.ref a1), .val (.int (1 : Int32)), .val (.int (Int32.ofNat 4)), .val (.ref o1), .val (.int (1 : Int32))] [(.int (1 : Int32)), (.ref a1), (.int (1 : Int32)), (.ref o1)])
  refine Goes.step (fun _ k => rdC X2 hx hZ e2 A_a1_2 (1) rfl (by decide) (g := (mkF m 19 #[.val (.ref a1), .val (.int (1 : Int32)), .val (.int (Int32.ofNat 4)), .val (.ref o1), .val (.int (1 : Int32))] [(.int (1 : Int32)), (.ref a1), (.int (1 : Int32)), (.ref o1)])) rfl rfl (hb hby d17_19) _ k) ?_
  show Goes p e below s _ _ _ T2 (mkF m 20 #[.val (.ref a1), .val (.int (1 : Int32)), .val (.int (Int32.ofNat 4)), .val (.ref o1), .val (.int (1 : Int32))] [(.int (f (1))), (.int (1 : Int32)), (.ref o1)])
  obtain ⟨v3, T3, h3, L3, X3, e3, Q3, st3⟩ := callX X2 hx hZ (y := (⟨"java/lang/StringUTF16", "putChar", "([BII)V"⟩ : MethodName)) hown (hw _ (List.mem_of_getElem? (i := 85) rfl)) (hw _ (List.mem_of_getElem? (i := 86) rfl)) (hw _ (List.mem_of_getElem? (i := 19) rfl)) (hw _ (List.mem_of_getElem? (i := 87) rfl)) (by decide) (W := 0) (argsL := [(.ref o1), (.int (1 : Int32)), (.int (f (1)))]) (rest := []) (rm20 l Z a0 hw [] o1 (1 : Int32) (f (1)) 1 4 (updI (updI (fun _ => 0) (2 * 0) (own_bb ((f (0)) >>> ((0 : Int32) &&& 31)))) (2 * 0 + 1) (own_bb ((f (0)) >>> ((8 : Int32) &&& 31)))) h2 n0 z_2 (OL.keep K_2 all0) O5 O6 O7 hA2 rfl (by decide) (by decide) ge_o1) (by decide) (by decide) (by decide) (by decide) e2 (g := (mkF m 20 #[.val (.ref a1), .val (.int (1 : Int32)), .val (.int (Int32.ofNat 4)), .val (.ref o1), .val (.int (1 : Int32))] [(.int (f (1))), (.int (1 : Int32)), (.ref o1)])) rfl (by rw [hml]; rfl) (lenOf pd_17n4_1 rfl) rfl (by show 2 * 0 + _ ≤ _; exact Nat.le_of_eq rfl) (hb hby d17_20)
  obtain ⟨rfl, NQ3, KQ3, hA3⟩ := Q3
  refine Goes.step st3 ?_
  have A_a1_3 := A_a1_2.keep KQ3 (ninS (Ne.symm ne_o1_a1) nin0)
  have z_3 : n0 ≤ h3.size := Nat.le_trans z_2 KQ3.1
  have K_3 : Keep h0 h3 [] := Keep.trans K_2 KQ3 (allS (Or.inr sz_o1) all0)
  have N_3 := Fr.app N_2 NQ3
  show Goes p e below s _ _ _ T3 (mkF m 23 #[.val (.ref a1), .val (.int (1 : Int32)), .val (.int (Int32.ofNat 4)), .val (.ref o1), .val (.int (1 : Int32))] [])
  refine Goes.step (fun _ k => XS.iinc X3.here hx rfl (hb hby d17_23) rfl (l' := #[.val (.ref a1), .val (.int (2 : Int32)), .val (.int (Int32.ofNat 4)), .val (.ref o1), .val (.int (1 : Int32))]) rfl k) ?_
  show Goes p e below s _ _ _ T3 (mkF m 26 #[.val (.ref a1), .val (.int (2 : Int32)), .val (.int (Int32.ofNat 4)), .val (.ref o1), .val (.int (1 : Int32))] [])
  refine Goes.step (fun _ k => XS.iinc X3.here hx rfl (hb hby d17_26) rfl (l' := #[.val (.ref a1), .val (.int (2 : Int32)), .val (.int (Int32.ofNat 4)), .val (.ref o1), .val (.int (2 : Int32))]) rfl k) ?_
  show Goes p e below s _ _ _ T3 (mkF m 29 #[.val (.ref a1), .val (.int (2 : Int32)), .val (.int (Int32.ofNat 4)), .val (.ref o1), .val (.int (2 : Int32))] [])
  refine Goes.step (fun _ k => XS.goto X3.here hx rfl (pc0 := 29) (pc' := 8) rfl (hb hby d17_29) (by decide) (by decide) k) ?_
  refine Goes.step (fun _ k => XS.iload X3.here hx rfl (hb hby d17_8) rfl k) ?_
  show Goes p e below s _ _ _ T3 (mkF m 10 #[.val (.ref a1), .val (.int (2 : Int32)), .val (.int (Int32.ofNat 4)), .val (.ref o1), .val (.int (2 : Int32))] [(.int (2 : Int32))])
  refine Goes.step (fun _ k => XS.iloadN X3.here hx rfl (hb hby d17_10) rfl k) ?_
  refine Goes.step (fun _ k => XS.icmpNo X3.here hx rfl (hb hby d17_11) rfl (tlt (by decide : (2 : Int32) < (Int32.ofNat 4))).2.1 k) ?_
  show Goes p e below s _ _ _ T3 (mkF m 14 #[.val (.ref a1), .val (.int (2 : Int32)), .val (.int (Int32.ofNat 4)), .val (.ref o1), .val (.int (2 : Int32))] [])
  refine Goes.step (fun _ k => XS.aloadN X3.here hx rfl (hb hby d17_14) rfl rfl k) ?_
  refine Goes.step (fun _ k => XS.iload X3.here hx rfl (hb hby d17_15) rfl k) ?_
  show Goes p e below s _ _ _ T3 (mkF m 17 #[.val (.ref a1), .val (.int (2 : Int32)), .val (.int (Int32.ofNat 4)), .val (.ref o1), .val (.int (2 : Int32))] [(.int (2 : Int32)), (.ref o1)])
  refine Goes.step (fun _ k => XS.aloadN X3.here hx rfl (hb hby d17_17) rfl rfl k) ?_
  refine Goes.step (fun _ k => XS.iloadN X3.here hx rfl (hb hby d17_18) rfl k) ?_
  show Goes p e below s _ _ _ T3 (mkF m 19 #[.val (.ref a1), .val (.int (2 : Int32)), .val (.int (Int32.ofNat 4)), .val (.ref o1), .val (.int (2 : Int32))] [(.int (2 : Int32)), (.ref a1), (.int (2 : Int32)), (.ref o1)])
  refine Goes.step (fun _ k => rdC X3 hx hZ e3 A_a1_3 (2) rfl (by decide) (g := (mkF m 19 #[.val (.ref a1), .val (.int (2 : Int32)), .val (.int (Int32.ofNat 4)), .val (.ref o1), .val (.int (2 : Int32))] [(.int (2 : Int32)), (.ref a1), (.int (2 : Int32)), (.ref o1)])) rfl rfl (hb hby d17_19) _ k) ?_
  show Goes p e below s _ _ _ T3 (mkF m 20 #[.val (.ref a1), .val (.int (2 : Int32)), .val (.int (Int32.ofNat 4)), .val (.ref o1), .val (.int (2 : Int32))] [(.int (f (2))), (.int (2 : Int32)), (.ref o1)])
  obtain ⟨v4, T4, h4, L4, X4, e4, Q4, st4⟩ := callX X3 hx hZ (y := (⟨"java/lang/StringUTF16", "putChar", "([BII)V"⟩ : MethodName)) hown (hw _ (List.mem_of_getElem? (i := 85) rfl)) (hw _ (List.mem_of_getElem? (i := 86) rfl)) (hw _ (List.mem_of_getElem? (i := 19) rfl)) (hw _ (List.mem_of_getElem? (i := 87) rfl)) (by decide) (W := 0) (argsL := [(.ref o1), (.int (2 : Int32)), (.int (f (2)))]) (rest := []) (rm20 l Z a0 hw [] o1 (2 : Int32) (f (2)) 2 4 (updI (updI (updI (updI (fun _ => 0) (2 * 0) (own_bb ((f (0)) >>> ((0 : Int32) &&& 31)))) (2 * 0 + 1) (own_bb ((f (0)) >>> ((8 : Int32) &&& 31)))) (2 * 1) (own_bb ((f (1)) >>> ((0 : Int32) &&& 31)))) (2 * 1 + 1) (own_bb ((f (1)) >>> ((8 : Int32) &&& 31)))) h3 n0 z_3 (OL.keep K_3 all0) O5 O6 O7 hA3 rfl (by decide) (by decide) ge_o1) (by decide) (by decide) (by decide) (by decide) e3 (g := (mkF m 20 #[.val (.ref a1), .val (.int (2 : Int32)), .val (.int (Int32.ofNat 4)), .val (.ref o1), .val (.int (2 : Int32))] [(.int (f (2))), (.int (2 : Int32)), (.ref o1)])) rfl (by rw [hml]; rfl) (lenOf pd_17n4_1 rfl) rfl (by show 2 * 0 + _ ≤ _; exact Nat.le_of_eq rfl) (hb hby d17_20)
  obtain ⟨rfl, NQ4, KQ4, hA4⟩ := Q4
  refine Goes.step st4 ?_
  have A_a1_4 := A_a1_3.keep KQ4 (ninS (Ne.symm ne_o1_a1) nin0)
  have z_4 : n0 ≤ h4.size := Nat.le_trans z_3 KQ4.1
  have K_4 : Keep h0 h4 [] := Keep.trans K_3 KQ4 (allS (Or.inr sz_o1) all0)
  have N_4 := Fr.app N_3 NQ4
  show Goes p e below s _ _ _ T4 (mkF m 23 #[.val (.ref a1), .val (.int (2 : Int32)), .val (.int (Int32.ofNat 4)), .val (.ref o1), .val (.int (2 : Int32))] [])
  refine Goes.step (fun _ k => XS.iinc X4.here hx rfl (hb hby d17_23) rfl (l' := #[.val (.ref a1), .val (.int (3 : Int32)), .val (.int (Int32.ofNat 4)), .val (.ref o1), .val (.int (2 : Int32))]) rfl k) ?_
  show Goes p e below s _ _ _ T4 (mkF m 26 #[.val (.ref a1), .val (.int (3 : Int32)), .val (.int (Int32.ofNat 4)), .val (.ref o1), .val (.int (2 : Int32))] [])
  refine Goes.step (fun _ k => XS.iinc X4.here hx rfl (hb hby d17_26) rfl (l' := #[.val (.ref a1), .val (.int (3 : Int32)), .val (.int (Int32.ofNat 4)), .val (.ref o1), .val (.int (3 : Int32))]) rfl k) ?_
  show Goes p e below s _ _ _ T4 (mkF m 29 #[.val (.ref a1), .val (.int (3 : Int32)), .val (.int (Int32.ofNat 4)), .val (.ref o1), .val (.int (3 : Int32))] [])
  refine Goes.step (fun _ k => XS.goto X4.here hx rfl (pc0 := 29) (pc' := 8) rfl (hb hby d17_29) (by decide) (by decide) k) ?_
  refine Goes.step (fun _ k => XS.iload X4.here hx rfl (hb hby d17_8) rfl k) ?_
  show Goes p e below s _ _ _ T4 (mkF m 10 #[.val (.ref a1), .val (.int (3 : Int32)), .val (.int (Int32.ofNat 4)), .val (.ref o1), .val (.int (3 : Int32))] [(.int (3 : Int32))])
  refine Goes.step (fun _ k => XS.iloadN X4.here hx rfl (hb hby d17_10) rfl k) ?_
  refine Goes.step (fun _ k => XS.icmpNo X4.here hx rfl (hb hby d17_11) rfl (tlt (by decide : (3 : Int32) < (Int32.ofNat 4))).2.1 k) ?_
  show Goes p e below s _ _ _ T4 (mkF m 14 #[.val (.ref a1), .val (.int (3 : Int32)), .val (.int (Int32.ofNat 4)), .val (.ref o1), .val (.int (3 : Int32))] [])
  refine Goes.step (fun _ k => XS.aloadN X4.here hx rfl (hb hby d17_14) rfl rfl k) ?_
  refine Goes.step (fun _ k => XS.iload X4.here hx rfl (hb hby d17_15) rfl k) ?_
  show Goes p e below s _ _ _ T4 (mkF m 17 #[.val (.ref a1), .val (.int (3 : Int32)), .val (.int (Int32.ofNat 4)), .val (.ref o1), .val (.int (3 : Int32))] [(.int (3 : Int32)), (.ref o1)])
  refine Goes.step (fun _ k => XS.aloadN X4.here hx rfl (hb hby d17_17) rfl rfl k) ?_
  refine Goes.step (fun _ k => XS.iloadN X4.here hx rfl (hb hby d17_18) rfl k) ?_
  show Goes p e below s _ _ _ T4 (mkF m 19 #[.val (.ref a1), .val (.int (3 : Int32)), .val (.int (Int32.ofNat 4)), .val (.ref o1), .val (.int (3 : Int32))] [(.int (3 : Int32)), (.ref a1), (.int (3 : Int32)), (.ref o1)])
  refine Goes.step (fun _ k => rdC X4 hx hZ e4 A_a1_4 (3) rfl (by decide) (g := (mkF m 19 #[.val (.ref a1), .val (.int (3 : Int32)), .val (.int (Int32.ofNat 4)), .val (.ref o1), .val (.int (3 : Int32))] [(.int (3 : Int32)), (.ref a1), (.int (3 : Int32)), (.ref o1)])) rfl rfl (hb hby d17_19) _ k) ?_
  show Goes p e below s _ _ _ T4 (mkF m 20 #[.val (.ref a1), .val (.int (3 : Int32)), .val (.int (Int32.ofNat 4)), .val (.ref o1), .val (.int (3 : Int32))] [(.int (f (3))), (.int (3 : Int32)), (.ref o1)])
  obtain ⟨v5, T5, h5, L5, X5, e5, Q5, st5⟩ := callX X4 hx hZ (y := (⟨"java/lang/StringUTF16", "putChar", "([BII)V"⟩ : MethodName)) hown (hw _ (List.mem_of_getElem? (i := 85) rfl)) (hw _ (List.mem_of_getElem? (i := 86) rfl)) (hw _ (List.mem_of_getElem? (i := 19) rfl)) (hw _ (List.mem_of_getElem? (i := 87) rfl)) (by decide) (W := 0) (argsL := [(.ref o1), (.int (3 : Int32)), (.int (f (3)))]) (rest := []) (rm20 l Z a0 hw [] o1 (3 : Int32) (f (3)) 3 4 (updI (updI (updI (updI (updI (updI (fun _ => 0) (2 * 0) (own_bb ((f (0)) >>> ((0 : Int32) &&& 31)))) (2 * 0 + 1) (own_bb ((f (0)) >>> ((8 : Int32) &&& 31)))) (2 * 1) (own_bb ((f (1)) >>> ((0 : Int32) &&& 31)))) (2 * 1 + 1) (own_bb ((f (1)) >>> ((8 : Int32) &&& 31)))) (2 * 2) (own_bb ((f (2)) >>> ((0 : Int32) &&& 31)))) (2 * 2 + 1) (own_bb ((f (2)) >>> ((8 : Int32) &&& 31)))) h4 n0 z_4 (OL.keep K_4 all0) O5 O6 O7 hA4 rfl (by decide) (by decide) ge_o1) (by decide) (by decide) (by decide) (by decide) e4 (g := (mkF m 20 #[.val (.ref a1), .val (.int (3 : Int32)), .val (.int (Int32.ofNat 4)), .val (.ref o1), .val (.int (3 : Int32))] [(.int (f (3))), (.int (3 : Int32)), (.ref o1)])) rfl (by rw [hml]; rfl) (lenOf pd_17n4_1 rfl) rfl (by show 2 * 0 + _ ≤ _; exact Nat.le_of_eq rfl) (hb hby d17_20)
  obtain ⟨rfl, NQ5, KQ5, hA5⟩ := Q5
  refine Goes.step st5 ?_
  have A_a1_5 := A_a1_4.keep KQ5 (ninS (Ne.symm ne_o1_a1) nin0)
  have z_5 : n0 ≤ h5.size := Nat.le_trans z_4 KQ5.1
  have K_5 : Keep h0 h5 [] := Keep.trans K_4 KQ5 (allS (Or.inr sz_o1) all0)
  have N_5 := Fr.app N_4 NQ5
  show Goes p e below s _ _ _ T5 (mkF m 23 #[.val (.ref a1), .val (.int (3 : Int32)), .val (.int (Int32.ofNat 4)), .val (.ref o1), .val (.int (3 : Int32))] [])
  refine Goes.step (fun _ k => XS.iinc X5.here hx rfl (hb hby d17_23) rfl (l' := #[.val (.ref a1), .val (.int (4 : Int32)), .val (.int (Int32.ofNat 4)), .val (.ref o1), .val (.int (3 : Int32))]) rfl k) ?_
  show Goes p e below s _ _ _ T5 (mkF m 26 #[.val (.ref a1), .val (.int (4 : Int32)), .val (.int (Int32.ofNat 4)), .val (.ref o1), .val (.int (3 : Int32))] [])
  refine Goes.step (fun _ k => XS.iinc X5.here hx rfl (hb hby d17_26) rfl (l' := #[.val (.ref a1), .val (.int (4 : Int32)), .val (.int (Int32.ofNat 4)), .val (.ref o1), .val (.int (4 : Int32))]) rfl k) ?_
  show Goes p e below s _ _ _ T5 (mkF m 29 #[.val (.ref a1), .val (.int (4 : Int32)), .val (.int (Int32.ofNat 4)), .val (.ref o1), .val (.int (4 : Int32))] [])
  refine Goes.step (fun _ k => XS.goto X5.here hx rfl (pc0 := 29) (pc' := 8) rfl (hb hby d17_29) (by decide) (by decide) k) ?_
  refine Goes.step (fun _ k => XS.iload X5.here hx rfl (hb hby d17_8) rfl k) ?_
  show Goes p e below s _ _ _ T5 (mkF m 10 #[.val (.ref a1), .val (.int (4 : Int32)), .val (.int (Int32.ofNat 4)), .val (.ref o1), .val (.int (4 : Int32))] [(.int (4 : Int32))])
  refine Goes.step (fun _ k => XS.iloadN X5.here hx rfl (hb hby d17_10) rfl k) ?_
  refine Goes.step (fun _ k => XS.icmpYes X5.here hx rfl (pc0 := 11) (pc' := 32) rfl (hb hby d17_11) rfl (flt (by decide : ¬ ((4 : Int32) < (Int32.ofNat 4)))).2.1 (by decide) (by decide) k) ?_
  show Goes p e below s _ _ _ T5 (mkF m 32 #[.val (.ref a1), .val (.int (4 : Int32)), .val (.int (Int32.ofNat 4)), .val (.ref o1), .val (.int (4 : Int32))] [])
  refine Goes.step (fun _ k => XS.aloadN X5.here hx rfl (hb hby d17_32) rfl rfl k) ?_
  show Goes p e below s _ _ _ T5 (mkF m 33 #[.val (.ref a1), .val (.int (4 : Int32)), .val (.int (Int32.ofNat 4)), .val (.ref o1), .val (.int (4 : Int32))] [(.ref o1)])
  exact Goes.outR X5 hx hlk Bd.returns rfl rfl (hb hby d17_33) (by rw [e5]; exact ⟨o1, rfl, N_5, K_5, sz_o1, hA5.cast (own_tb4 f)⟩) (by decide) (by decide)
theorem own_cp4 (f g : Nat → Int32) (j : Nat) (hj : j < 4) : (updI (updI (updI (updI g (0) (((f (0)).toInt8.toInt32).toInt8.toInt32)) (1) (((f (1)).toInt8.toInt32).toInt8.toInt32)) (2) (((f (2)).toInt8.toInt32).toInt8.toInt32)) (3) (((f (3)).toInt8.toInt32).toInt8.toInt32)) j = own_bb (f j) := by
  obtain rfl | rfl | rfl | rfl : j = 0 ∨ j = 1 ∨ j = 2 ∨ j = 3 := by omega
  all_goals simp [updI, own_bb]
theorem ef_5n4 (m : MethodId) (a1 : Addr) (a3 : Addr) : entryFrame m #[(.ref a1), (.int (0 : Int32)), (.ref a3), (.int (0 : Int32)), (.int (Int32.ofNat 4))] 7 = mkF m 0 #[.val (.ref a1), .val (.int (0 : Int32)), .val (.ref a3), .val (.int (0 : Int32)), .val (.int (Int32.ofNat 4)), .unset, .unset] [] := by first | (simp [entryFrame, mkF, argsToLocals, Value.category]; done) | rfl
def Q5n4 (Z : State) (a1 : Addr) (a3 : Addr) (f : Nat → Int32) (g : Nat → Int32) (h0 : Heap) (n0 : Nat) (v : Option Value) (h : Heap) (L : List Loc) : Prop := ∃ r : Nat, v = some (.int (Int32.ofNat r)) ∧ Fr n0 L ∧ Keep h0 h [a3] ∧ ((r = 4 ∧ (∀ j, j < 4 → ¬ ((255 : Int32) < f j)) ∧ Ari Z h a3 .byte 4 (fun j => own_bb (f j))) ∨ (r < 4 ∧ (255 : Int32) < f r))
set_option maxRecDepth 65536 in
set_option maxHeartbeats 40000000 in
theorem rm5n4 (l : Launch) (Z : State) (a0 : Array Value) (hw : ∀ d ∈ tables_1, d.before a0 Z = true) (ws : List Jvm.Cond) (a1 : Addr) (a3 : Addr) (f : Nat → Int32) (g : Nat → Int32) (h0 : Heap) (n0 : Nat) (Z0 : n0 ≤ h0.size) (A_a1_0 : Ari Z h0 a1 .char 4 f) (A_a3_0 : Ari Z h0 a3 .byte 4 g) (ne_a1_a3 : a1 ≠ a3) (ge_a3 : n0 ≤ a3) :
    MetFree l (⟨"java/lang/StringUTF16", "compress", "([CI[BII)I"⟩ : MethodName) (head1 (Jvm.Cond.code (⟨"java/lang/StringUTF16", "compress", "([CI[BII)I"⟩ : MethodName) jdk_52_method_21_code 7 (some .int) :: ws) ({ frames := 0, cells := 0, slots := 0, locals := 0 } : Room)) (fun a U => a = #[(.ref a1), (.int (0 : Int32)), (.ref a3), (.int (0 : Int32)), (.int (Int32.ofNat 4))] ∧ Z.Warmed39 U.vm ∧ U.heap = h0) (fun _ _ _ _ _ => True) (fun _ U o U' => ∃ v L, o = .returned v ∧ Q5n4 Z a1 a3 f g h0 n0 v U'.heap L ∧ FrameEnd U o U' L ({ frames := 0, cells := 0, slots := 0, locals := 0 } : Room).cells ({ frames := 0, cells := 0, slots := 0, locals := 0 } : Room).slots) := by
  refine MetFree.of_bodySF (plainFor_of_name pn_5) hisR ?_
  intro p e s m args below meth c s₁ Bd hml0 hP hK
  obtain ⟨rfl, hZ, hh⟩ := hP
  have hx := Bd.exec
  have hby := Bd.bytes
  have hlk := Bd.notSynchronized
  have hml : c.maxLocals = 7 := hml0
  have hown : s.vm.findClass "java/lang/StringUTF16" = some m.cls := findClass_of_methodNamed Bd.named
  have hnm := (name_of_methodNamed Bd.named Bd.method).1
  have X0 : Stand p l e ({ frames := 0, cells := 0, slots := 0, locals := 0 } : Room) s m #[(.ref a1), (.int (0 : Int32)), (.ref a3), (.int (0 : Int32)), (.int (Int32.ofNat 4))] below meth c s₁ [] 0 0 := Stand.of_body Bd
  have e0 : s₁.heap = h0 := by rw [← hh, Bd.state]; rfl
  have N0 := Fr.nil n0
  have K0 : Keep h0 h0 [a3] := Keep.refl h0 _
  show Goes p e below s ({ frames := 0, cells := 0, slots := 0, locals := 0 } : Room).cells ({ frames := 0, cells := 0, slots := 0, locals := 0 } : Room).slots (Q5n4 Z a1 a3 f g h0 n0) s₁ (entryFrame m #[(.ref a1), (.int (0 : Int32)), (.ref a3), (.int (0 : Int32)), (.int (Int32.ofNat 4))] 7)
  refine Goes.step (fun t k => castTop (ef_5n4 m a1 a3) k) ?_
  refine Goes.step (fun _ k => XS.iconst X0.here hx rfl (hb hby d5_0) k) ?_
  refine Goes.step (fun _ k => XS.istore X0.here hx rfl (hb hby d5_1) rfl (l' := #[.val (.ref a1), .val (.int (0 : Int32)), .val (.ref a3), .val (.int (0 : Int32)), .val (.int (Int32.ofNat 4)), .val (.int (0 : Int32)), .unset]) rfl k) ?_
  show Goes p e below s _ _ _ s₁ (mkF m 3 #[.val (.ref a1), .val (.int (0 : Int32)), .val (.ref a3), .val (.int (0 : Int32)), .val (.int (Int32.ofNat 4)), .val (.int (0 : Int32)), .unset] [])
  refine Goes.step (fun _ k => XS.iload X0.here hx rfl (hb hby d5_3) rfl k) ?_
  refine Goes.step (fun _ k => XS.iload X0.here hx rfl (hb hby d5_5) rfl k) ?_
  show Goes p e below s _ _ _ s₁ (mkF m 7 #[.val (.ref a1), .val (.int (0 : Int32)), .val (.ref a3), .val (.int (0 : Int32)), .val (.int (Int32.ofNat 4)), .val (.int (0 : Int32)), .unset] [(.int (Int32.ofNat 4)), (.int (0 : Int32))])
  refine Goes.step (fun _ k => XS.icmpNo X0.here hx rfl (hb hby d5_7) rfl (tlt (by decide : (0 : Int32) < (Int32.ofNat 4))).2.1 k) ?_
  show Goes p e below s _ _ _ s₁ (mkF m 10 #[.val (.ref a1), .val (.int (0 : Int32)), .val (.ref a3), .val (.int (0 : Int32)), .val (.int (Int32.ofNat 4)), .val (.int (0 : Int32)), .unset] [])
  refine Goes.step (fun _ k => XS.aloadN X0.here hx rfl (hb hby d5_10) rfl rfl k) ?_
  refine Goes.step (fun _ k => XS.iloadN X0.here hx rfl (hb hby d5_11) rfl k) ?_
  show Goes p e below s _ _ _ s₁ (mkF m 12 #[.val (.ref a1), .val (.int (0 : Int32)), .val (.ref a3), .val (.int (0 : Int32)), .val (.int (Int32.ofNat 4)), .val (.int (0 : Int32)), .unset] [(.int (0 : Int32)), (.ref a1)])
  refine Goes.step (fun _ k => rdC X0 hx hZ e0 A_a1_0 (0) rfl (by decide) (g := (mkF m 12 #[.val (.ref a1), .val (.int (0 : Int32)), .val (.ref a3), .val (.int (0 : Int32)), .val (.int (Int32.ofNat 4)), .val (.int (0 : Int32)), .unset] [(.int (0 : Int32)), (.ref a1)])) rfl rfl (hb hby d5_12) _ k) ?_
  show Goes p e below s _ _ _ s₁ (mkF m 13 #[.val (.ref a1), .val (.int (0 : Int32)), .val (.ref a3), .val (.int (0 : Int32)), .val (.int (Int32.ofNat 4)), .val (.int (0 : Int32)), .unset] [(.int (f (0)))])
  refine Goes.step (fun _ k => XS.istore X0.here hx rfl (hb hby d5_13) rfl (l' := #[.val (.ref a1), .val (.int (0 : Int32)), .val (.ref a3), .val (.int (0 : Int32)), .val (.int (Int32.ofNat 4)), .val (.int (0 : Int32)), .val (.int (f (0)))]) rfl k) ?_
  refine Goes.step (fun _ k => XS.iload X0.here hx rfl (hb hby d5_15) rfl k) ?_
  show Goes p e below s _ _ _ s₁ (mkF m 17 #[.val (.ref a1), .val (.int (0 : Int32)), .val (.ref a3), .val (.int (0 : Int32)), .val (.int (Int32.ofNat 4)), .val (.int (0 : Int32)), .val (.int (f (0)))] [(.int (f (0)))])
  refine Goes.step (fun _ k => XS.sipush X0.here hx rfl (hb hby d5_17) k) ?_
  by_cases hc20 : (255 : Int32) < (f (0))
  · refine Goes.step (fun _ k => XS.icmpNo X0.here hx rfl (hb hby d5_20) rfl (tlt hc20).2.2.2 k) ?_
    show Goes p e below s _ _ _ s₁ (mkF m 23 #[.val (.ref a1), .val (.int (0 : Int32)), .val (.ref a3), .val (.int (0 : Int32)), .val (.int (Int32.ofNat 4)), .val (.int (0 : Int32)), .val (.int (f (0)))] [])
    refine Goes.step (fun _ k => XS.iload X0.here hx rfl (hb hby d5_23) rfl k) ?_
    show Goes p e below s _ _ _ s₁ (mkF m 25 #[.val (.ref a1), .val (.int (0 : Int32)), .val (.ref a3), .val (.int (0 : Int32)), .val (.int (Int32.ofNat 4)), .val (.int (0 : Int32)), .val (.int (f (0)))] [(.int (0 : Int32))])
    exact Goes.outI X0 hx hlk Bd.returns (hb hby d5_25) (by rw [e0]; exact ⟨0, rfl, N0, K0, Or.inr ⟨by decide, hc20⟩⟩) (by decide) (by decide)
  · refine Goes.step (fun _ k => XS.icmpYes X0.here hx rfl (pc0 := 20) (pc' := 26) rfl (hb hby d5_20) rfl (flt hc20).2.2.2 (by decide) (by decide) k) ?_
    show Goes p e below s _ _ _ s₁ (mkF m 26 #[.val (.ref a1), .val (.int (0 : Int32)), .val (.ref a3), .val (.int (0 : Int32)), .val (.int (Int32.ofNat 4)), .val (.int (0 : Int32)), .val (.int (f (0)))] [])
    refine Goes.step (fun _ k => XS.aloadN X0.here hx rfl (hb hby d5_26) rfl rfl k) ?_
    show Goes p e below s _ _ _ s₁ (mkF m 27 #[.val (.ref a1), .val (.int (0 : Int32)), .val (.ref a3), .val (.int (0 : Int32)), .val (.int (Int32.ofNat 4)), .val (.int (0 : Int32)), .val (.int (f (0)))] [(.ref a3)])
    refine Goes.step (fun _ k => XS.iloadN X0.here hx rfl (hb hby d5_27) rfl k) ?_
    refine Goes.step (fun _ k => XS.iload X0.here hx rfl (hb hby d5_28) rfl k) ?_
    show Goes p e below s _ _ _ s₁ (mkF m 30 #[.val (.ref a1), .val (.int (0 : Int32)), .val (.ref a3), .val (.int (0 : Int32)), .val (.int (Int32.ofNat 4)), .val (.int (0 : Int32)), .val (.int (f (0)))] [(.int (f (0))), (.int (0 : Int32)), (.ref a3)])
    refine Goes.step (fun _ k => XS.i2b X0.here hx rfl (hb hby d5_30) rfl k) ?_
    show Goes p e below s _ _ _ s₁ (mkF m 31 #[.val (.ref a1), .val (.int (0 : Int32)), .val (.ref a3), .val (.int (0 : Int32)), .val (.int (Int32.ofNat 4)), .val (.int (0 : Int32)), .val (.int (f (0)))] [(.int ((f (0)).toInt8.toInt32)), (.int (0 : Int32)), (.ref a3)])
    obtain ⟨T1, h1, X1, e1, W1, A1, st1⟩ := stoB X0 hx hZ e0 A_a3_0 (0) rfl (by decide) (g := (mkF m 31 #[.val (.ref a1), .val (.int (0 : Int32)), .val (.ref a3), .val (.int (0 : Int32)), .val (.int (Int32.ofNat 4)), .val (.int (0 : Int32)), .val (.int (f (0)))] [(.int ((f (0)).toInt8.toInt32)), (.int (0 : Int32)), (.ref a3)])) rfl rfl (hb hby d5_31)
    refine Goes.step st1 ?_
    have A_a1_1 := A_a1_0.other W1 ne_a1_a3
    have z_1 : n0 ≤ h1.size := by rw [W1.size]; exact Z0
    have K_1 : Keep h0 h1 [a3] := K0.wr W1 (Or.inl (List.mem_of_getElem? (i := 0) rfl))
    have N_1 := Fr.snoc X1 N0 ge_a3
    have A_a3_1 : Ari Z h1 a3 .byte (4) (updI g (0) (((f (0)).toInt8.toInt32).toInt8.toInt32)) := A1
    show Goes p e below s _ _ _ T1 (mkF m 32 #[.val (.ref a1), .val (.int (0 : Int32)), .val (.ref a3), .val (.int (0 : Int32)), .val (.int (Int32.ofNat 4)), .val (.int (0 : Int32)), .val (.int (f (0)))] [])
    refine Goes.step (fun _ k => XS.iinc X1.here hx rfl (hb hby d5_32) rfl (l' := #[.val (.ref a1), .val (.int (1 : Int32)), .val (.ref a3), .val (.int (0 : Int32)), .val (.int (Int32.ofNat 4)), .val (.int (0 : Int32)), .val (.int (f (0)))]) rfl k) ?_
    show Goes p e below s _ _ _ T1 (mkF m 35 #[.val (.ref a1), .val (.int (1 : Int32)), .val (.ref a3), .val (.int (0 : Int32)), .val (.int (Int32.ofNat 4)), .val (.int (0 : Int32)), .val (.int (f (0)))] [])
    refine Goes.step (fun _ k => XS.iinc X1.here hx rfl (hb hby d5_35) rfl (l' := #[.val (.ref a1), .val (.int (1 : Int32)), .val (.ref a3), .val (.int (1 : Int32)), .val (.int (Int32.ofNat 4)), .val (.int (0 : Int32)), .val (.int (f (0)))]) rfl k) ?_
    show Goes p e below s _ _ _ T1 (mkF m 38 #[.val (.ref a1), .val (.int (1 : Int32)), .val (.ref a3), .val (.int (1 : Int32)), .val (.int (Int32.ofNat 4)), .val (.int (0 : Int32)), .val (.int (f (0)))] [])
    refine Goes.step (fun _ k => XS.iinc X1.here hx rfl (hb hby d5_38) rfl (l' := #[.val (.ref a1), .val (.int (1 : Int32)), .val (.ref a3), .val (.int (1 : Int32)), .val (.int (Int32.ofNat 4)), .val (.int (1 : Int32)), .val (.int (f (0)))]) rfl k) ?_
    show Goes p e below s _ _ _ T1 (mkF m 41 #[.val (.ref a1), .val (.int (1 : Int32)), .val (.ref a3), .val (.int (1 : Int32)), .val (.int (Int32.ofNat 4)), .val (.int (1 : Int32)), .val (.int (f (0)))] [])
    refine Goes.step (fun _ k => XS.goto X1.here hx rfl (pc0 := 41) (pc' := 3) rfl (hb hby d5_41) (by decide) (by decide) k) ?_
    refine Goes.step (fun _ k => XS.iload X1.here hx rfl (hb hby d5_3) rfl k) ?_
    show Goes p e below s _ _ _ T1 (mkF m 5 #[.val (.ref a1), .val (.int (1 : Int32)), .val (.ref a3), .val (.int (1 : Int32)), .val (.int (Int32.ofNat 4)), .val (.int (1 : Int32)), .val (.int (f (0)))] [(.int (1 : Int32))])
    refine Goes.step (fun _ k => XS.iload X1.here hx rfl (hb hby d5_5) rfl k) ?_
    refine Goes.step (fun _ k => XS.icmpNo X1.here hx rfl (hb hby d5_7) rfl (tlt (by decide : (1 : Int32) < (Int32.ofNat 4))).2.1 k) ?_
    show Goes p e below s _ _ _ T1 (mkF m 10 #[.val (.ref a1), .val (.int (1 : Int32)), .val (.ref a3), .val (.int (1 : Int32)), .val (.int (Int32.ofNat 4)), .val (.int (1 : Int32)), .val (.int (f (0)))] [])
    refine Goes.step (fun _ k => XS.aloadN X1.here hx rfl (hb hby d5_10) rfl rfl k) ?_
    refine Goes.step (fun _ k => XS.iloadN X1.here hx rfl (hb hby d5_11) rfl k) ?_
    show Goes p e below s _ _ _ T1 (mkF m 12 #[.val (.ref a1), .val (.int (1 : Int32)), .val (.ref a3), .val (.int (1 : Int32)), .val (.int (Int32.ofNat 4)), .val (.int (1 : Int32)), .val (.int (f (0)))] [(.int (1 : Int32)), (.ref a1)])
    refine Goes.step (fun _ k => rdC X1 hx hZ e1 A_a1_1 (1) rfl (by decide) (g := (mkF m 12 #[.val (.ref a1), .val (.int (1 : Int32)), .val (.ref a3), .val (.int (1 : Int32)), .val (.int (Int32.ofNat 4)), .val (.int (1 : Int32)), .val (.int (f (0)))] [(.int (1 : Int32)), (.ref a1)])) rfl rfl (hb hby d5_12) _ k) ?_
    show Goes p e below s _ _ _ T1 (mkF m 13 #[.val (.ref a1), .val (.int (1 : Int32)), .val (.ref a3), .val (.int (1 : Int32)), .val (.int (Int32.ofNat 4)), .val (.int (1 : Int32)), .val (.int (f (0)))] [(.int (f (1)))])
    refine Goes.step (fun _ k => XS.istore X1.here hx rfl (hb hby d5_13) rfl (l' := #[.val (.ref a1), .val (.int (1 : Int32)), .val (.ref a3), .val (.int (1 : Int32)), .val (.int (Int32.ofNat 4)), .val (.int (1 : Int32)), .val (.int (f (1)))]) rfl k) ?_
    refine Goes.step (fun _ k => XS.iload X1.here hx rfl (hb hby d5_15) rfl k) ?_
    show Goes p e below s _ _ _ T1 (mkF m 17 #[.val (.ref a1), .val (.int (1 : Int32)), .val (.ref a3), .val (.int (1 : Int32)), .val (.int (Int32.ofNat 4)), .val (.int (1 : Int32)), .val (.int (f (1)))] [(.int (f (1)))])
    refine Goes.step (fun _ k => XS.sipush X1.here hx rfl (hb hby d5_17) k) ?_
    by_cases hc20_1 : (255 : Int32) < (f (1))
    · refine Goes.step (fun _ k => XS.icmpNo X1.here hx rfl (hb hby d5_20) rfl (tlt hc20_1).2.2.2 k) ?_
      show Goes p e below s _ _ _ T1 (mkF m 23 #[.val (.ref a1), .val (.int (1 : Int32)), .val (.ref a3), .val (.int (1 : Int32)), .val (.int (Int32.ofNat 4)), .val (.int (1 : Int32)), .val (.int (f (1)))] [])
      refine Goes.step (fun _ k => XS.iload X1.here hx rfl (hb hby d5_23) rfl k) ?_
      show Goes p e below s _ _ _ T1 (mkF m 25 #[.val (.ref a1), .val (.int (1 : Int32)), .val (.ref a3), .val (.int (1 : Int32)), .val (.int (Int32.ofNat 4)), .val (.int (1 : Int32)), .val (.int (f (1)))] [(.int (1 : Int32))])
      exact Goes.outI X1 hx hlk Bd.returns (hb hby d5_25) (by rw [e1]; exact ⟨1, rfl, N_1, K_1, Or.inr ⟨by decide, hc20_1⟩⟩) (by decide) (by decide)
    · refine Goes.step (fun _ k => XS.icmpYes X1.here hx rfl (pc0 := 20) (pc' := 26) rfl (hb hby d5_20) rfl (flt hc20_1).2.2.2 (by decide) (by decide) k) ?_
      show Goes p e below s _ _ _ T1 (mkF m 26 #[.val (.ref a1), .val (.int (1 : Int32)), .val (.ref a3), .val (.int (1 : Int32)), .val (.int (Int32.ofNat 4)), .val (.int (1 : Int32)), .val (.int (f (1)))] [])
      refine Goes.step (fun _ k => XS.aloadN X1.here hx rfl (hb hby d5_26) rfl rfl k) ?_
      show Goes p e below s _ _ _ T1 (mkF m 27 #[.val (.ref a1), .val (.int (1 : Int32)), .val (.ref a3), .val (.int (1 : Int32)), .val (.int (Int32.ofNat 4)), .val (.int (1 : Int32)), .val (.int (f (1)))] [(.ref a3)])
      refine Goes.step (fun _ k => XS.iloadN X1.here hx rfl (hb hby d5_27) rfl k) ?_
      refine Goes.step (fun _ k => XS.iload X1.here hx rfl (hb hby d5_28) rfl k) ?_
      show Goes p e below s _ _ _ T1 (mkF m 30 #[.val (.ref a1), .val (.int (1 : Int32)), .val (.ref a3), .val (.int (1 : Int32)), .val (.int (Int32.ofNat 4)), .val (.int (1 : Int32)), .val (.int (f (1)))] [(.int (f (1))), (.int (1 : Int32)), (.ref a3)])
      refine Goes.step (fun _ k => XS.i2b X1.here hx rfl (hb hby d5_30) rfl k) ?_
      show Goes p e below s _ _ _ T1 (mkF m 31 #[.val (.ref a1), .val (.int (1 : Int32)), .val (.ref a3), .val (.int (1 : Int32)), .val (.int (Int32.ofNat 4)), .val (.int (1 : Int32)), .val (.int (f (1)))] [(.int ((f (1)).toInt8.toInt32)), (.int (1 : Int32)), (.ref a3)])
      obtain ⟨T2, h2, X2, e2, W2, A2, st2⟩ := stoB X1 hx hZ e1 A_a3_1 (1) rfl (by decide) (g := (mkF m 31 #[.val (.ref a1), .val (.int (1 : Int32)), .val (.ref a3), .val (.int (1 : Int32)), .val (.int (Int32.ofNat 4)), .val (.int (1 : Int32)), .val (.int (f (1)))] [(.int ((f (1)).toInt8.toInt32)), (.int (1 : Int32)), (.ref a3)])) rfl rfl (hb hby d5_31)
      refine Goes.step st2 ?_
      have A_a1_2 := A_a1_1.other W2 ne_a1_a3
      have z_2 : n0 ≤ h2.size := by rw [W2.size]; exact z_1
      have K_2 : Keep h0 h2 [a3] := K_1.wr W2 (Or.inl (List.mem_of_getElem? (i := 0) rfl))
      have N_2 := Fr.snoc X2 N_1 ge_a3
      have A_a3_2 : Ari Z h2 a3 .byte (4) (updI (updI g (0) (((f (0)).toInt8.toInt32).toInt8.toInt32)) (1) (((f (1)).toInt8.toInt32).toInt8.toInt32)) := A2
      show Goes p e below s _ _ _ T2 (mkF m 32 #[.val (.ref a1), .val (.int (1 : Int32)), .val (.ref a3), .val (.int (1 : Int32)), .val (.int (Int32.ofNat 4)), .val (.int (1 : Int32)), .val (.int (f (1)))] [])
      refine Goes.step (fun _ k => XS.iinc X2.here hx rfl (hb hby d5_32) rfl (l' := #[.val (.ref a1), .val (.int (2 : Int32)), .val (.ref a3), .val (.int (1 : Int32)), .val (.int (Int32.ofNat 4)), .val (.int (1 : Int32)), .val (.int (f (1)))]) rfl k) ?_
      show Goes p e below s _ _ _ T2 (mkF m 35 #[.val (.ref a1), .val (.int (2 : Int32)), .val (.ref a3), .val (.int (1 : Int32)), .val (.int (Int32.ofNat 4)), .val (.int (1 : Int32)), .val (.int (f (1)))] [])
      refine Goes.step (fun _ k => XS.iinc X2.here hx rfl (hb hby d5_35) rfl (l' := #[.val (.ref a1), .val (.int (2 : Int32)), .val (.ref a3), .val (.int (2 : Int32)), .val (.int (Int32.ofNat 4)), .val (.int (1 : Int32)), .val (.int (f (1)))]) rfl k) ?_
      show Goes p e below s _ _ _ T2 (mkF m 38 #[.val (.ref a1), .val (.int (2 : Int32)), .val (.ref a3), .val (.int (2 : Int32)), .val (.int (Int32.ofNat 4)), .val (.int (1 : Int32)), .val (.int (f (1)))] [])
      refine Goes.step (fun _ k => XS.iinc X2.here hx rfl (hb hby d5_38) rfl (l' := #[.val (.ref a1), .val (.int (2 : Int32)), .val (.ref a3), .val (.int (2 : Int32)), .val (.int (Int32.ofNat 4)), .val (.int (2 : Int32)), .val (.int (f (1)))]) rfl k) ?_
      show Goes p e below s _ _ _ T2 (mkF m 41 #[.val (.ref a1), .val (.int (2 : Int32)), .val (.ref a3), .val (.int (2 : Int32)), .val (.int (Int32.ofNat 4)), .val (.int (2 : Int32)), .val (.int (f (1)))] [])
      refine Goes.step (fun _ k => XS.goto X2.here hx rfl (pc0 := 41) (pc' := 3) rfl (hb hby d5_41) (by decide) (by decide) k) ?_
      refine Goes.step (fun _ k => XS.iload X2.here hx rfl (hb hby d5_3) rfl k) ?_
      show Goes p e below s _ _ _ T2 (mkF m 5 #[.val (.ref a1), .val (.int (2 : Int32)), .val (.ref a3), .val (.int (2 : Int32)), .val (.int (Int32.ofNat 4)), .val (.int (2 : Int32)), .val (.int (f (1)))] [(.int (2 : Int32))])
      refine Goes.step (fun _ k => XS.iload X2.here hx rfl (hb hby d5_5) rfl k) ?_
      refine Goes.step (fun _ k => XS.icmpNo X2.here hx rfl (hb hby d5_7) rfl (tlt (by decide : (2 : Int32) < (Int32.ofNat 4))).2.1 k) ?_
      show Goes p e below s _ _ _ T2 (mkF m 10 #[.val (.ref a1), .val (.int (2 : Int32)), .val (.ref a3), .val (.int (2 : Int32)), .val (.int (Int32.ofNat 4)), .val (.int (2 : Int32)), .val (.int (f (1)))] [])
      refine Goes.step (fun _ k => XS.aloadN X2.here hx rfl (hb hby d5_10) rfl rfl k) ?_
      refine Goes.step (fun _ k => XS.iloadN X2.here hx rfl (hb hby d5_11) rfl k) ?_
      show Goes p e below s _ _ _ T2 (mkF m 12 #[.val (.ref a1), .val (.int (2 : Int32)), .val (.ref a3), .val (.int (2 : Int32)), .val (.int (Int32.ofNat 4)), .val (.int (2 : Int32)), .val (.int (f (1)))] [(.int (2 : Int32)), (.ref a1)])
      refine Goes.step (fun _ k => rdC X2 hx hZ e2 A_a1_2 (2) rfl (by decide) (g := (mkF m 12 #[.val (.ref a1), .val (.int (2 : Int32)), .val (.ref a3), .val (.int (2 : Int32)), .val (.int (Int32.ofNat 4)), .val (.int (2 : Int32)), .val (.int (f (1)))] [(.int (2 : Int32)), (.ref a1)])) rfl rfl (hb hby d5_12) _ k) ?_
      show Goes p e below s _ _ _ T2 (mkF m 13 #[.val (.ref a1), .val (.int (2 : Int32)), .val (.ref a3), .val (.int (2 : Int32)), .val (.int (Int32.ofNat 4)), .val (.int (2 : Int32)), .val (.int (f (1)))] [(.int (f (2)))])
      refine Goes.step (fun _ k => XS.istore X2.here hx rfl (hb hby d5_13) rfl (l' := #[.val (.ref a1), .val (.int (2 : Int32)), .val (.ref a3), .val (.int (2 : Int32)), .val (.int (Int32.ofNat 4)), .val (.int (2 : Int32)), .val (.int (f (2)))]) rfl k) ?_
      refine Goes.step (fun _ k => XS.iload X2.here hx rfl (hb hby d5_15) rfl k) ?_
      show Goes p e below s _ _ _ T2 (mkF m 17 #[.val (.ref a1), .val (.int (2 : Int32)), .val (.ref a3), .val (.int (2 : Int32)), .val (.int (Int32.ofNat 4)), .val (.int (2 : Int32)), .val (.int (f (2)))] [(.int (f (2)))])
      refine Goes.step (fun _ k => XS.sipush X2.here hx rfl (hb hby d5_17) k) ?_
      by_cases hc20_2 : (255 : Int32) < (f (2))
      · refine Goes.step (fun _ k => XS.icmpNo X2.here hx rfl (hb hby d5_20) rfl (tlt hc20_2).2.2.2 k) ?_
        show Goes p e below s _ _ _ T2 (mkF m 23 #[.val (.ref a1), .val (.int (2 : Int32)), .val (.ref a3), .val (.int (2 : Int32)), .val (.int (Int32.ofNat 4)), .val (.int (2 : Int32)), .val (.int (f (2)))] [])
        refine Goes.step (fun _ k => XS.iload X2.here hx rfl (hb hby d5_23) rfl k) ?_
        show Goes p e below s _ _ _ T2 (mkF m 25 #[.val (.ref a1), .val (.int (2 : Int32)), .val (.ref a3), .val (.int (2 : Int32)), .val (.int (Int32.ofNat 4)), .val (.int (2 : Int32)), .val (.int (f (2)))] [(.int (2 : Int32))])
        exact Goes.outI X2 hx hlk Bd.returns (hb hby d5_25) (by rw [e2]; exact ⟨2, rfl, N_2, K_2, Or.inr ⟨by decide, hc20_2⟩⟩) (by decide) (by decide)
      · refine Goes.step (fun _ k => XS.icmpYes X2.here hx rfl (pc0 := 20) (pc' := 26) rfl (hb hby d5_20) rfl (flt hc20_2).2.2.2 (by decide) (by decide) k) ?_
        show Goes p e below s _ _ _ T2 (mkF m 26 #[.val (.ref a1), .val (.int (2 : Int32)), .val (.ref a3), .val (.int (2 : Int32)), .val (.int (Int32.ofNat 4)), .val (.int (2 : Int32)), .val (.int (f (2)))] [])
        refine Goes.step (fun _ k => XS.aloadN X2.here hx rfl (hb hby d5_26) rfl rfl k) ?_
        show Goes p e below s _ _ _ T2 (mkF m 27 #[.val (.ref a1), .val (.int (2 : Int32)), .val (.ref a3), .val (.int (2 : Int32)), .val (.int (Int32.ofNat 4)), .val (.int (2 : Int32)), .val (.int (f (2)))] [(.ref a3)])
        refine Goes.step (fun _ k => XS.iloadN X2.here hx rfl (hb hby d5_27) rfl k) ?_
        refine Goes.step (fun _ k => XS.iload X2.here hx rfl (hb hby d5_28) rfl k) ?_
        show Goes p e below s _ _ _ T2 (mkF m 30 #[.val (.ref a1), .val (.int (2 : Int32)), .val (.ref a3), .val (.int (2 : Int32)), .val (.int (Int32.ofNat 4)), .val (.int (2 : Int32)), .val (.int (f (2)))] [(.int (f (2))), (.int (2 : Int32)), (.ref a3)])
        refine Goes.step (fun _ k => XS.i2b X2.here hx rfl (hb hby d5_30) rfl k) ?_
        show Goes p e below s _ _ _ T2 (mkF m 31 #[.val (.ref a1), .val (.int (2 : Int32)), .val (.ref a3), .val (.int (2 : Int32)), .val (.int (Int32.ofNat 4)), .val (.int (2 : Int32)), .val (.int (f (2)))] [(.int ((f (2)).toInt8.toInt32)), (.int (2 : Int32)), (.ref a3)])
        obtain ⟨T3, h3, X3, e3, W3, A3, st3⟩ := stoB X2 hx hZ e2 A_a3_2 (2) rfl (by decide) (g := (mkF m 31 #[.val (.ref a1), .val (.int (2 : Int32)), .val (.ref a3), .val (.int (2 : Int32)), .val (.int (Int32.ofNat 4)), .val (.int (2 : Int32)), .val (.int (f (2)))] [(.int ((f (2)).toInt8.toInt32)), (.int (2 : Int32)), (.ref a3)])) rfl rfl (hb hby d5_31)
        refine Goes.step st3 ?_
        have A_a1_3 := A_a1_2.other W3 ne_a1_a3
        have z_3 : n0 ≤ h3.size := by rw [W3.size]; exact z_2
        have K_3 : Keep h0 h3 [a3] := K_2.wr W3 (Or.inl (List.mem_of_getElem? (i := 0) rfl))
        have N_3 := Fr.snoc X3 N_2 ge_a3
        have A_a3_3 : Ari Z h3 a3 .byte (4) (updI (updI (updI g (0) (((f (0)).toInt8.toInt32).toInt8.toInt32)) (1) (((f (1)).toInt8.toInt32).toInt8.toInt32)) (2) (((f (2)).toInt8.toInt32).toInt8.toInt32)) := A3
        show Goes p e below s _ _ _ T3 (mkF m 32 #[.val (.ref a1), .val (.int (2 : Int32)), .val (.ref a3), .val (.int (2 : Int32)), .val (.int (Int32.ofNat 4)), .val (.int (2 : Int32)), .val (.int (f (2)))] [])
        refine Goes.step (fun _ k => XS.iinc X3.here hx rfl (hb hby d5_32) rfl (l' := #[.val (.ref a1), .val (.int (3 : Int32)), .val (.ref a3), .val (.int (2 : Int32)), .val (.int (Int32.ofNat 4)), .val (.int (2 : Int32)), .val (.int (f (2)))]) rfl k) ?_
        show Goes p e below s _ _ _ T3 (mkF m 35 #[.val (.ref a1), .val (.int (3 : Int32)), .val (.ref a3), .val (.int (2 : Int32)), .val (.int (Int32.ofNat 4)), .val (.int (2 : Int32)), .val (.int (f (2)))] [])
        refine Goes.step (fun _ k => XS.iinc X3.here hx rfl (hb hby d5_35) rfl (l' := #[.val (.ref a1), .val (.int (3 : Int32)), .val (.ref a3), .val (.int (3 : Int32)), .val (.int (Int32.ofNat 4)), .val (.int (2 : Int32)), .val (.int (f (2)))]) rfl k) ?_
        show Goes p e below s _ _ _ T3 (mkF m 38 #[.val (.ref a1), .val (.int (3 : Int32)), .val (.ref a3), .val (.int (3 : Int32)), .val (.int (Int32.ofNat 4)), .val (.int (2 : Int32)), .val (.int (f (2)))] [])
        refine Goes.step (fun _ k => XS.iinc X3.here hx rfl (hb hby d5_38) rfl (l' := #[.val (.ref a1), .val (.int (3 : Int32)), .val (.ref a3), .val (.int (3 : Int32)), .val (.int (Int32.ofNat 4)), .val (.int (3 : Int32)), .val (.int (f (2)))]) rfl k) ?_
        show Goes p e below s _ _ _ T3 (mkF m 41 #[.val (.ref a1), .val (.int (3 : Int32)), .val (.ref a3), .val (.int (3 : Int32)), .val (.int (Int32.ofNat 4)), .val (.int (3 : Int32)), .val (.int (f (2)))] [])
        refine Goes.step (fun _ k => XS.goto X3.here hx rfl (pc0 := 41) (pc' := 3) rfl (hb hby d5_41) (by decide) (by decide) k) ?_
        refine Goes.step (fun _ k => XS.iload X3.here hx rfl (hb hby d5_3) rfl k) ?_
        show Goes p e below s _ _ _ T3 (mkF m 5 #[.val (.ref a1), .val (.int (3 : Int32)), .val (.ref a3), .val (.int (3 : Int32)), .val (.int (Int32.ofNat 4)), .val (.int (3 : Int32)), .val (.int (f (2)))] [(.int (3 : Int32))])
        refine Goes.step (fun _ k => XS.iload X3.here hx rfl (hb hby d5_5) rfl k) ?_
        refine Goes.step (fun _ k => XS.icmpNo X3.here hx rfl (hb hby d5_7) rfl (tlt (by decide : (3 : Int32) < (Int32.ofNat 4))).2.1 k) ?_
        show Goes p e below s _ _ _ T3 (mkF m 10 #[.val (.ref a1), .val (.int (3 : Int32)), .val (.ref a3), .val (.int (3 : Int32)), .val (.int (Int32.ofNat 4)), .val (.int (3 : Int32)), .val (.int (f (2)))] [])
        refine Goes.step (fun _ k => XS.aloadN X3.here hx rfl (hb hby d5_10) rfl rfl k) ?_
        refine Goes.step (fun _ k => XS.iloadN X3.here hx rfl (hb hby d5_11) rfl k) ?_
        show Goes p e below s _ _ _ T3 (mkF m 12 #[.val (.ref a1), .val (.int (3 : Int32)), .val (.ref a3), .val (.int (3 : Int32)), .val (.int (Int32.ofNat 4)), .val (.int (3 : Int32)), .val (.int (f (2)))] [(.int (3 : Int32)), (.ref a1)])
        refine Goes.step (fun _ k => rdC X3 hx hZ e3 A_a1_3 (3) rfl (by decide) (g := (mkF m 12 #[.val (.ref a1), .val (.int (3 : Int32)), .val (.ref a3), .val (.int (3 : Int32)), .val (.int (Int32.ofNat 4)), .val (.int (3 : Int32)), .val (.int (f (2)))] [(.int (3 : Int32)), (.ref a1)])) rfl rfl (hb hby d5_12) _ k) ?_
        show Goes p e below s _ _ _ T3 (mkF m 13 #[.val (.ref a1), .val (.int (3 : Int32)), .val (.ref a3), .val (.int (3 : Int32)), .val (.int (Int32.ofNat 4)), .val (.int (3 : Int32)), .val (.int (f (2)))] [(.int (f (3)))])
        refine Goes.step (fun _ k => XS.istore X3.here hx rfl (hb hby d5_13) rfl (l' := #[.val (.ref a1), .val (.int (3 : Int32)), .val (.ref a3), .val (.int (3 : Int32)), .val (.int (Int32.ofNat 4)), .val (.int (3 : Int32)), .val (.int (f (3)))]) rfl k) ?_
        refine Goes.step (fun _ k => XS.iload X3.here hx rfl (hb hby d5_15) rfl k) ?_
        show Goes p e below s _ _ _ T3 (mkF m 17 #[.val (.ref a1), .val (.int (3 : Int32)), .val (.ref a3), .val (.int (3 : Int32)), .val (.int (Int32.ofNat 4)), .val (.int (3 : Int32)), .val (.int (f (3)))] [(.int (f (3)))])
        refine Goes.step (fun _ k => XS.sipush X3.here hx rfl (hb hby d5_17) k) ?_
        by_cases hc20_3 : (255 : Int32) < (f (3))
        · refine Goes.step (fun _ k => XS.icmpNo X3.here hx rfl (hb hby d5_20) rfl (tlt hc20_3).2.2.2 k) ?_
          show Goes p e below s _ _ _ T3 (mkF m 23 #[.val (.ref a1), .val (.int (3 : Int32)), .val (.ref a3), .val (.int (3 : Int32)), .val (.int (Int32.ofNat 4)), .val (.int (3 : Int32)), .val (.int (f (3)))] [])
          refine Goes.step (fun _ k => XS.iload X3.here hx rfl (hb hby d5_23) rfl k) ?_
          show Goes p e below s _ _ _ T3 (mkF m 25 #[.val (.ref a1), .val (.int (3 : Int32)), .val (.ref a3), .val (.int (3 : Int32)), .val (.int (Int32.ofNat 4)), .val (.int (3 : Int32)), .val (.int (f (3)))] [(.int (3 : Int32))])
          exact Goes.outI X3 hx hlk Bd.returns (hb hby d5_25) (by rw [e3]; exact ⟨3, rfl, N_3, K_3, Or.inr ⟨by decide, hc20_3⟩⟩) (by decide) (by decide)
        · refine Goes.step (fun _ k => XS.icmpYes X3.here hx rfl (pc0 := 20) (pc' := 26) rfl (hb hby d5_20) rfl (flt hc20_3).2.2.2 (by decide) (by decide) k) ?_
          show Goes p e below s _ _ _ T3 (mkF m 26 #[.val (.ref a1), .val (.int (3 : Int32)), .val (.ref a3), .val (.int (3 : Int32)), .val (.int (Int32.ofNat 4)), .val (.int (3 : Int32)), .val (.int (f (3)))] [])
          refine Goes.step (fun _ k => XS.aloadN X3.here hx rfl (hb hby d5_26) rfl rfl k) ?_
          show Goes p e below s _ _ _ T3 (mkF m 27 #[.val (.ref a1), .val (.int (3 : Int32)), .val (.ref a3), .val (.int (3 : Int32)), .val (.int (Int32.ofNat 4)), .val (.int (3 : Int32)), .val (.int (f (3)))] [(.ref a3)])
          refine Goes.step (fun _ k => XS.iloadN X3.here hx rfl (hb hby d5_27) rfl k) ?_
          refine Goes.step (fun _ k => XS.iload X3.here hx rfl (hb hby d5_28) rfl k) ?_
          show Goes p e below s _ _ _ T3 (mkF m 30 #[.val (.ref a1), .val (.int (3 : Int32)), .val (.ref a3), .val (.int (3 : Int32)), .val (.int (Int32.ofNat 4)), .val (.int (3 : Int32)), .val (.int (f (3)))] [(.int (f (3))), (.int (3 : Int32)), (.ref a3)])
          refine Goes.step (fun _ k => XS.i2b X3.here hx rfl (hb hby d5_30) rfl k) ?_
          show Goes p e below s _ _ _ T3 (mkF m 31 #[.val (.ref a1), .val (.int (3 : Int32)), .val (.ref a3), .val (.int (3 : Int32)), .val (.int (Int32.ofNat 4)), .val (.int (3 : Int32)), .val (.int (f (3)))] [(.int ((f (3)).toInt8.toInt32)), (.int (3 : Int32)), (.ref a3)])
          obtain ⟨T4, h4, X4, e4, W4, A4, st4⟩ := stoB X3 hx hZ e3 A_a3_3 (3) rfl (by decide) (g := (mkF m 31 #[.val (.ref a1), .val (.int (3 : Int32)), .val (.ref a3), .val (.int (3 : Int32)), .val (.int (Int32.ofNat 4)), .val (.int (3 : Int32)), .val (.int (f (3)))] [(.int ((f (3)).toInt8.toInt32)), (.int (3 : Int32)), (.ref a3)])) rfl rfl (hb hby d5_31)
          refine Goes.step st4 ?_
          have A_a1_4 := A_a1_3.other W4 ne_a1_a3
          have z_4 : n0 ≤ h4.size := by rw [W4.size]; exact z_3
          have K_4 : Keep h0 h4 [a3] := K_3.wr W4 (Or.inl (List.mem_of_getElem? (i := 0) rfl))
          have N_4 := Fr.snoc X4 N_3 ge_a3
          have A_a3_4 : Ari Z h4 a3 .byte (4) (updI (updI (updI (updI g (0) (((f (0)).toInt8.toInt32).toInt8.toInt32)) (1) (((f (1)).toInt8.toInt32).toInt8.toInt32)) (2) (((f (2)).toInt8.toInt32).toInt8.toInt32)) (3) (((f (3)).toInt8.toInt32).toInt8.toInt32)) := A4
          show Goes p e below s _ _ _ T4 (mkF m 32 #[.val (.ref a1), .val (.int (3 : Int32)), .val (.ref a3), .val (.int (3 : Int32)), .val (.int (Int32.ofNat 4)), .val (.int (3 : Int32)), .val (.int (f (3)))] [])
          refine Goes.step (fun _ k => XS.iinc X4.here hx rfl (hb hby d5_32) rfl (l' := #[.val (.ref a1), .val (.int (4 : Int32)), .val (.ref a3), .val (.int (3 : Int32)), .val (.int (Int32.ofNat 4)), .val (.int (3 : Int32)), .val (.int (f (3)))]) rfl k) ?_
          show Goes p e below s _ _ _ T4 (mkF m 35 #[.val (.ref a1), .val (.int (4 : Int32)), .val (.ref a3), .val (.int (3 : Int32)), .val (.int (Int32.ofNat 4)), .val (.int (3 : Int32)), .val (.int (f (3)))] [])
          refine Goes.step (fun _ k => XS.iinc X4.here hx rfl (hb hby d5_35) rfl (l' := #[.val (.ref a1), .val (.int (4 : Int32)), .val (.ref a3), .val (.int (4 : Int32)), .val (.int (Int32.ofNat 4)), .val (.int (3 : Int32)), .val (.int (f (3)))]) rfl k) ?_
          show Goes p e below s _ _ _ T4 (mkF m 38 #[.val (.ref a1), .val (.int (4 : Int32)), .val (.ref a3), .val (.int (4 : Int32)), .val (.int (Int32.ofNat 4)), .val (.int (3 : Int32)), .val (.int (f (3)))] [])
          refine Goes.step (fun _ k => XS.iinc X4.here hx rfl (hb hby d5_38) rfl (l' := #[.val (.ref a1), .val (.int (4 : Int32)), .val (.ref a3), .val (.int (4 : Int32)), .val (.int (Int32.ofNat 4)), .val (.int (4 : Int32)), .val (.int (f (3)))]) rfl k) ?_
          show Goes p e below s _ _ _ T4 (mkF m 41 #[.val (.ref a1), .val (.int (4 : Int32)), .val (.ref a3), .val (.int (4 : Int32)), .val (.int (Int32.ofNat 4)), .val (.int (4 : Int32)), .val (.int (f (3)))] [])
          refine Goes.step (fun _ k => XS.goto X4.here hx rfl (pc0 := 41) (pc' := 3) rfl (hb hby d5_41) (by decide) (by decide) k) ?_
          refine Goes.step (fun _ k => XS.iload X4.here hx rfl (hb hby d5_3) rfl k) ?_
          show Goes p e below s _ _ _ T4 (mkF m 5 #[.val (.ref a1), .val (.int (4 : Int32)), .val (.ref a3), .val (.int (4 : Int32)), .val (.int (Int32.ofNat 4)), .val (.int (4 : Int32)), .val (.int (f (3)))] [(.int (4 : Int32))])
          refine Goes.step (fun _ k => XS.iload X4.here hx rfl (hb hby d5_5) rfl k) ?_
          refine Goes.step (fun _ k => XS.icmpYes X4.here hx rfl (pc0 := 7) (pc' := 44) rfl (hb hby d5_7) rfl (flt (by decide : ¬ ((4 : Int32) < (Int32.ofNat 4)))).2.1 (by decide) (by decide) k) ?_
          show Goes p e below s _ _ _ T4 (mkF m 44 #[.val (.ref a1), .val (.int (4 : Int32)), .val (.ref a3), .val (.int (4 : Int32)), .val (.int (Int32.ofNat 4)), .val (.int (4 : Int32)), .val (.int (f (3)))] [])
          refine Goes.step (fun _ k => XS.iload X4.here hx rfl (hb hby d5_44) rfl k) ?_
          show Goes p e below s _ _ _ T4 (mkF m 46 #[.val (.ref a1), .val (.int (4 : Int32)), .val (.ref a3), .val (.int (4 : Int32)), .val (.int (Int32.ofNat 4)), .val (.int (4 : Int32)), .val (.int (f (3)))] [(.int (Int32.ofNat 4))])
          have hall : ∀ j, j < 4 → ¬ ((255 : Int32) < f j) := fun j hj => by
            obtain rfl | rfl | rfl | rfl : j = 0 ∨ j = 1 ∨ j = 2 ∨ j = 3 := by omega
            · exact hc20
            · exact hc20_1
            · exact hc20_2
            · exact hc20_3
          exact Goes.outI X4 hx hlk Bd.returns (hb hby d5_46) (by rw [e4]; exact ⟨4, rfl, N_4, K_4, Or.inl ⟨rfl, hall, A_a3_4.cast (own_cp4 f g)⟩⟩) (by decide) (by decide)
theorem pd_4n4_0 : parseMethodDescriptor "([CI[BII)I" = some ⟨[(.array .char), .int, (.array .byte), .int, .int], some .int⟩ := by decide +kernel
theorem pd_4n4_1 : parseMethodDescriptor "([CII)[B" = some ⟨[(.array .char), .int, .int], some (.array .byte)⟩ := by decide +kernel
theorem pd_4n4_2 : parseMethodDescriptor "([BI)C" = some ⟨[(.array .byte), .int], some .char⟩ := by decide +kernel
theorem ef_4n4 (m : MethodId) (a1 : Addr) : entryFrame m #[(.ref a1), (.int (0 : Int32)), (.int (Int32.ofNat 4))] 6 = mkF m 0 #[.val (.ref a1), .val (.int (0 : Int32)), .val (.int (Int32.ofNat 4)), .unset, .unset, .unset] [] := by first | (simp [entryFrame, mkF, argsToLocals, Value.category]; done) | rfl
def Q4n4 (Z : State) (a1 : Addr) (f : Nat → Int32) (h0 : Heap) (n0 : Nat) (v : Option Value) (h : Heap) (L : List Loc) : Prop := ∃ o, v = some (.ref o) ∧ Fr n0 L ∧ Keep h0 h [] ∧ h0.size ≤ o ∧ ((Ari Z h o .byte 4 (fun j => own_bb (f j)) ∧ ∀ j, j < 4 → ¬ ((255 : Int32) < f j)) ∨ Ari Z h o .byte (2 * 4) (own_u f))
set_option maxRecDepth 65536 in
set_option maxHeartbeats 40000000 in
theorem rm4n4 (l : Launch) (Z : State) (a0 : Array Value) (hw : ∀ d ∈ tables_1, d.before a0 Z = true) (ws : List Jvm.Cond) (a1 : Addr) (f : Nat → Int32) (h0 : Heap) (n0 : Nat) (Z0 : n0 ≤ h0.size) (OL : Old Z n0 h0) (O5 : Sta Z Z.heap "java/lang/StringUTF16" "$assertionsDisabled" "Z" (.int (1 : Int32))) (O6 : Sta Z Z.heap "java/lang/StringUTF16" "HI_BYTE_SHIFT" "I" (.int (0 : Int32))) (O7 : Sta Z Z.heap "java/lang/StringUTF16" "LO_BYTE_SHIFT" "I" (.int (8 : Int32))) (A_a1_0 : Ari Z h0 a1 .char 4 f) (rg : own_rg 4 f) :
    MetFree l (⟨"java/lang/StringUTF16", "compress", "([CII)[B"⟩ : MethodName) (head1 (Jvm.Cond.code (⟨"java/lang/StringUTF16", "compress", "([CII)[B"⟩ : MethodName) jdk_52_method_16_code 6 (some (.array .byte)) :: ws) ({ frames := 3, cells := 2, slots := 12, locals := 40 } : Room)) (fun a U => a = #[(.ref a1), (.int (0 : Int32)), (.int (Int32.ofNat 4))] ∧ Z.Warmed39 U.vm ∧ U.heap = h0) (fun _ _ _ _ _ => True) (fun _ U o U' => ∃ v L, o = .returned v ∧ Q4n4 Z a1 f h0 n0 v U'.heap L ∧ FrameEnd U o U' L ({ frames := 3, cells := 2, slots := 12, locals := 40 } : Room).cells ({ frames := 3, cells := 2, slots := 12, locals := 40 } : Room).slots) := by
  refine MetFree.of_bodySF (plainFor_of_name pn_4) hisR ?_
  intro p e s m args below meth c s₁ Bd hml0 hP hK
  obtain ⟨rfl, hZ, hh⟩ := hP
  have hx := Bd.exec
  have hby := Bd.bytes
  have hlk := Bd.notSynchronized
  have hml : c.maxLocals = 6 := hml0
  have hown : s.vm.findClass "java/lang/StringUTF16" = some m.cls := findClass_of_methodNamed Bd.named
  have hnm := (name_of_methodNamed Bd.named Bd.method).1
  have X0 : Stand p l e ({ frames := 3, cells := 2, slots := 12, locals := 40 } : Room) s m #[(.ref a1), (.int (0 : Int32)), (.int (Int32.ofNat 4))] below meth c s₁ [] 0 0 := Stand.of_body Bd
  have e0 : s₁.heap = h0 := by rw [← hh, Bd.state]; rfl
  have N0 := Fr.nil n0
  have K0 : Keep h0 h0 [] := Keep.refl h0 _
  show Goes p e below s ({ frames := 3, cells := 2, slots := 12, locals := 40 } : Room).cells ({ frames := 3, cells := 2, slots := 12, locals := 40 } : Room).slots (Q4n4 Z a1 f h0 n0) s₁ (entryFrame m #[(.ref a1), (.int (0 : Int32)), (.int (Int32.ofNat 4))] 6)
  refine Goes.step (fun t k => castTop (ef_4n4 m a1) k) ?_
  refine Goes.step (fun _ k => XS.iloadN X0.here hx rfl (hb hby d4_0) rfl k) ?_
  obtain ⟨T1, h1, X1, e1, E1, A1, st1⟩ := newI X0 hx hZ (hw _ (List.mem_of_getElem? (i := 21) rfl)) e0 (g := (mkF m 1 #[.val (.ref a1), .val (.int (0 : Int32)), .val (.int (Int32.ofNat 4)), .unset, .unset, .unset] [(.int (Int32.ofNat 4))])) rfl (hb hby d4_1) rfl (N := 4) rfl (cap := 4) (by decide) (by decide) (by decide) (by decide) rfl (by decide)
  obtain ⟨b1, g_1⟩ : ∃ z, z = h0.size := ⟨_, rfl⟩
  rw [← g_1] at A1 st1
  refine Goes.step st1 ?_
  have ne_a1_b1 : a1 ≠ b1 := Nat.ne_of_lt (by rw [g_1]; exact A_a1_0.lt)
  have ge_b1 : n0 ≤ b1 := by rw [g_1]; exact Z0
  have sz_b1 : h0.size ≤ b1 := by rw [g_1]; exact K0.1
  have A_a1_1 := A_a1_0.ext E1
  have z_1 : n0 ≤ h1.size := Nat.le_trans Z0 E1.1
  have K_1 : Keep h0 h1 [] := K0.ext E1
  have A_b1_1 : Ari Z h1 b1 .byte (4) (fun _ => 0) := A1
  show Goes p e below s _ _ _ T1 (mkF m 3 #[.val (.ref a1), .val (.int (0 : Int32)), .val (.int (Int32.ofNat 4)), .unset, .unset, .unset] [(.ref b1)])
  refine Goes.step (fun _ k => XS.astoreN X1.here hx rfl (hb hby d4_3) rfl rfl (l' := #[.val (.ref a1), .val (.int (0 : Int32)), .val (.int (Int32.ofNat 4)), .val (.ref b1), .unset, .unset]) rfl k) ?_
  refine Goes.step (fun _ k => XS.aloadN X1.here hx rfl (hb hby d4_4) rfl rfl k) ?_
  show Goes p e below s _ _ _ T1 (mkF m 5 #[.val (.ref a1), .val (.int (0 : Int32)), .val (.int (Int32.ofNat 4)), .val (.ref b1), .unset, .unset] [(.ref a1)])
  refine Goes.step (fun _ k => XS.iloadN X1.here hx rfl (hb hby d4_5) rfl k) ?_
  refine Goes.step (fun _ k => XS.aloadN X1.here hx rfl (hb hby d4_6) rfl rfl k) ?_
  show Goes p e below s _ _ _ T1 (mkF m 7 #[.val (.ref a1), .val (.int (0 : Int32)), .val (.int (Int32.ofNat 4)), .val (.ref b1), .unset, .unset] [(.ref b1), (.int (0 : Int32)), (.ref a1)])
  refine Goes.step (fun _ k => XS.iconst X1.here hx rfl (hb hby d4_7) k) ?_
  refine Goes.step (fun _ k => XS.iloadN X1.here hx rfl (hb hby d4_8) rfl k) ?_
  show Goes p e below s _ _ _ T1 (mkF m 9 #[.val (.ref a1), .val (.int (0 : Int32)), .val (.int (Int32.ofNat 4)), .val (.ref b1), .unset, .unset] [(.int (Int32.ofNat 4)), (.int (0 : Int32)), (.ref b1), (.int (0 : Int32)), (.ref a1)])
  obtain ⟨v2, T2, h2, L2, X2, e2, Q2, st2⟩ := callX X1 hx hZ (y := (⟨"java/lang/StringUTF16", "compress", "([CI[BII)I"⟩ : MethodName)) hown (hw _ (List.mem_of_getElem? (i := 22) rfl)) (hw _ (List.mem_of_getElem? (i := 23) rfl)) (hw _ (List.mem_of_getElem? (i := 19) rfl)) (hw _ (List.mem_of_getElem? (i := 24) rfl)) (by decide) (W := 0) (argsL := [(.ref a1), (.int (0 : Int32)), (.ref b1), (.int (0 : Int32)), (.int (Int32.ofNat 4))]) (rest := []) (rm5n4 l Z a0 hw [] a1 b1 f (fun _ => 0) h1 n0 z_1 A_a1_1 A_b1_1 ne_a1_b1 ge_b1) (by decide) (by decide) (by decide) (by decide) e1 (g := (mkF m 9 #[.val (.ref a1), .val (.int (0 : Int32)), .val (.int (Int32.ofNat 4)), .val (.ref b1), .unset, .unset] [(.int (Int32.ofNat 4)), (.int (0 : Int32)), (.ref b1), (.int (0 : Int32)), (.ref a1)])) rfl (by rw [hml]; rfl) (lenOf pd_4n4_0 rfl) rfl (by show 2 * 0 + _ ≤ _; exact Nat.le_of_eq rfl) (hb hby d4_9)
  obtain ⟨r2, rfl, NQ2, KQ2, hR2⟩ := Q2
  refine Goes.step st2 ?_
  have A_a1_2 := A_a1_1.keep KQ2 (ninS ne_a1_b1 nin0)
  have z_2 : n0 ≤ h2.size := Nat.le_trans z_1 KQ2.1
  have K_2 : Keep h0 h2 [] := Keep.trans K_1 KQ2 (allS (Or.inr sz_b1) all0)
  have N_2 := Fr.app N0 NQ2
  show Goes p e below s _ _ _ T2 (mkF m 12 #[.val (.ref a1), .val (.int (0 : Int32)), .val (.int (Int32.ofNat 4)), .val (.ref b1), .unset, .unset] [(.int (Int32.ofNat r2))])
  rcases hR2 with ⟨hr, hall, hAr⟩ | ⟨hlt, hgt⟩
  · subst hr
    refine Goes.step (fun _ k => XS.istore X2.here hx rfl (hb hby d4_12) rfl (l' := #[.val (.ref a1), .val (.int (0 : Int32)), .val (.int (Int32.ofNat 4)), .val (.ref b1), .val (.int (Int32.ofNat 4)), .unset]) rfl k) ?_
    refine Goes.step (fun _ k => XS.iload X2.here hx rfl (hb hby d4_14) rfl k) ?_
    show Goes p e below s _ _ _ T2 (mkF m 16 #[.val (.ref a1), .val (.int (0 : Int32)), .val (.int (Int32.ofNat 4)), .val (.ref b1), .val (.int (Int32.ofNat 4)), .unset] [(.int (Int32.ofNat 4))])
    refine Goes.step (fun _ k => XS.iloadN X2.here hx rfl (hb hby d4_16) rfl k) ?_
    refine Goes.step (fun _ k => XS.icmpYes X2.here hx rfl (pc0 := 17) (pc' := 57) rfl (hb hby d4_17) rfl (teq (by decide : (Int32.ofNat 4) = (Int32.ofNat 4))).1 (by decide) (by decide) k) ?_
    show Goes p e below s _ _ _ T2 (mkF m 57 #[.val (.ref a1), .val (.int (0 : Int32)), .val (.int (Int32.ofNat 4)), .val (.ref b1), .val (.int (Int32.ofNat 4)), .unset] [])
    refine Goes.step (fun _ k => XS.aloadN X2.here hx rfl (hb hby d4_57) rfl rfl k) ?_
    show Goes p e below s _ _ _ T2 (mkF m 58 #[.val (.ref a1), .val (.int (0 : Int32)), .val (.int (Int32.ofNat 4)), .val (.ref b1), .val (.int (Int32.ofNat 4)), .unset] [(.ref b1)])
    exact Goes.outR X2 hx hlk Bd.returns rfl rfl (hb hby d4_58) (by rw [e2]; exact ⟨b1, rfl, N_2, K_2, sz_b1, Or.inl ⟨hAr, hall⟩⟩) (by decide) (by decide)
  · have hlt0 := hlt
    refine Goes.step (fun _ k => XS.istore X2.here hx rfl (hb hby d4_12) rfl (l' := #[.val (.ref a1), .val (.int (0 : Int32)), .val (.int (Int32.ofNat 4)), .val (.ref b1), .val (.int (Int32.ofNat r2)), .unset]) rfl k) ?_
    refine Goes.step (fun _ k => XS.iload X2.here hx rfl (hb hby d4_14) rfl k) ?_
    show Goes p e below s _ _ _ T2 (mkF m 16 #[.val (.ref a1), .val (.int (0 : Int32)), .val (.int (Int32.ofNat 4)), .val (.ref b1), .val (.int (Int32.ofNat r2)), .unset] [(.int (Int32.ofNat r2))])
    refine Goes.step (fun _ k => XS.iloadN X2.here hx rfl (hb hby d4_16) rfl k) ?_
    refine Goes.step (fun _ k => XS.icmpNo X2.here hx rfl (hb hby d4_17) rfl (feq (own_neq hlt (by decide) rfl)).1 k) ?_
    show Goes p e below s _ _ _ T2 (mkF m 20 #[.val (.ref a1), .val (.int (0 : Int32)), .val (.int (Int32.ofNat 4)), .val (.ref b1), .val (.int (Int32.ofNat r2)), .unset] [])
    refine Goes.step (fun _ k => XS.aloadN X2.here hx rfl (hb hby d4_20) rfl rfl k) ?_
    refine Goes.step (fun _ k => XS.iloadN X2.here hx rfl (hb hby d4_21) rfl k) ?_
    show Goes p e below s _ _ _ T2 (mkF m 22 #[.val (.ref a1), .val (.int (0 : Int32)), .val (.int (Int32.ofNat 4)), .val (.ref b1), .val (.int (Int32.ofNat r2)), .unset] [(.int (0 : Int32)), (.ref a1)])
    refine Goes.step (fun _ k => XS.iloadN X2.here hx rfl (hb hby d4_22) rfl k) ?_
    obtain ⟨v3, T3, h3, L3, X3, e3, Q3, st3⟩ := callX X2 hx hZ (y := (⟨"java/lang/StringUTF16", "toBytes", "([CII)[B"⟩ : MethodName)) hown (hw _ (List.mem_of_getElem? (i := 75) rfl)) (hw _ (List.mem_of_getElem? (i := 76) rfl)) (hw _ (List.mem_of_getElem? (i := 19) rfl)) (hw _ (List.mem_of_getElem? (i := 77) rfl)) (by decide) (W := 0) (argsL := [(.ref a1), (.int (0 : Int32)), (.int (Int32.ofNat 4))]) (rest := []) (rm17n4 l Z a0 hw [] a1 f h2 n0 z_2 (OL.keep K_2 all0) O5 O6 O7 A_a1_2) (by decide) (by decide) (by decide) (by decide) e2 (g := (mkF m 23 #[.val (.ref a1), .val (.int (0 : Int32)), .val (.int (Int32.ofNat 4)), .val (.ref b1), .val (.int (Int32.ofNat r2)), .unset] [(.int (Int32.ofNat 4)), (.int (0 : Int32)), (.ref a1)])) rfl (by rw [hml]; rfl) (lenOf pd_4n4_1 rfl) rfl (by show 2 * 0 + _ ≤ _; exact Nat.le_of_eq rfl) (hb hby d4_23)
    obtain ⟨o3, rfl, NQ3, KQ3, so3, hA3⟩ := Q3
    refine Goes.step st3 ?_
    have A_a1_3 := A_a1_2.keep KQ3 nin0
    have z_3 : n0 ≤ h3.size := Nat.le_trans z_2 KQ3.1
    have K_3 : Keep h0 h3 [] := Keep.trans K_2 KQ3 all0
    have N_3 := Fr.app N_2 NQ3
    have ne_o3_a1 : o3 ≠ a1 := Nat.ne_of_gt (Nat.lt_of_lt_of_le A_a1_2.lt so3)
    have ge_o3 : n0 ≤ o3 := Nat.le_trans z_2 so3
    have sz_o3 : h0.size ≤ o3 := Nat.le_trans K_2.1 so3
    show Goes p e below s _ _ _ T3 (mkF m 26 #[.val (.ref a1), .val (.int (0 : Int32)), .val (.int (Int32.ofNat 4)), .val (.ref b1), .val (.int (Int32.ofNat r2)), .unset] [(.ref o3)])
    refine Goes.step (fun _ k => XS.astore X3.here hx rfl (hb hby d4_26) rfl rfl (l' := #[.val (.ref a1), .val (.int (0 : Int32)), .val (.int (Int32.ofNat 4)), .val (.ref b1), .val (.int (Int32.ofNat r2)), .val (.ref o3)]) rfl k) ?_
    refine Goes.step (fun _ k => XS.aload X3.here hx rfl (hb hby d4_28) rfl rfl k) ?_
    show Goes p e below s _ _ _ T3 (mkF m 30 #[.val (.ref a1), .val (.int (0 : Int32)), .val (.int (Int32.ofNat 4)), .val (.ref b1), .val (.int (Int32.ofNat r2)), .val (.ref o3)] [(.ref o3)])
    refine Goes.step (fun _ k => XS.iload X3.here hx rfl (hb hby d4_30) rfl k) ?_
    obtain ⟨T4, X4, e4, st4⟩ := own_pure (r := some (.int (own_g1 ((own_u f) (2 * r2)) ((own_u f) (2 * r2 + 1))))) (fun _ _ _ q => q) (callX X3 hx hZ (y := (⟨"java/lang/StringUTF16", "getChar", "([BI)C"⟩ : MethodName)) hown (hw _ (List.mem_of_getElem? (i := 91) rfl)) (hw _ (List.mem_of_getElem? (i := 92) rfl)) (hw _ (List.mem_of_getElem? (i := 19) rfl)) (hw _ (List.mem_of_getElem? (i := 93) rfl)) (by decide) (W := 0) (argsL := [(.ref o3), (.int (Int32.ofNat r2))]) (rest := []) (rm21 l Z a0 hw [] o3 (Int32.ofNat r2) r2 4 (own_u f) h3 n0 z_3 (OL.keep K_3 all0) O5 O6 O7 hA3 rfl hlt (by decide)) (by decide) (by decide) (by decide) (by decide) e3 (g := (mkF m 32 #[.val (.ref a1), .val (.int (0 : Int32)), .val (.int (Int32.ofNat 4)), .val (.ref b1), .val (.int (Int32.ofNat r2)), .val (.ref o3)] [(.int (Int32.ofNat r2)), (.ref o3)])) rfl (by rw [hml]; rfl) (lenOf pd_4n4_2 rfl) rfl (by show 2 * 0 + _ ≤ _; exact Nat.le_of_eq rfl) (hb hby d4_32))
    refine Goes.step st4 ?_
    show Goes p e below s _ _ _ T4 (mkF m 35 #[.val (.ref a1), .val (.int (0 : Int32)), .val (.int (Int32.ofNat 4)), .val (.ref b1), .val (.int (Int32.ofNat r2)), .val (.ref o3)] [(.int (own_g1 ((own_u f) (2 * r2)) ((own_u f) (2 * r2 + 1))))])
    refine Goes.step (fun _ k => XS.sipush X4.here hx rfl (hb hby d4_35) k) ?_
    refine Goes.step (fun _ k => XS.icmpYes X4.here hx rfl (pc0 := 38) (pc' := 54) rfl (hb hby d4_38) rfl (tlt (own_gt rg hlt hgt)).2.2.1 (by decide) (by decide) k) ?_
    show Goes p e below s _ _ _ T4 (mkF m 54 #[.val (.ref a1), .val (.int (0 : Int32)), .val (.int (Int32.ofNat 4)), .val (.ref b1), .val (.int (Int32.ofNat r2)), .val (.ref o3)] [])
    refine Goes.step (fun _ k => XS.aload X4.here hx rfl (hb hby d4_54) rfl rfl k) ?_
    show Goes p e below s _ _ _ T4 (mkF m 56 #[.val (.ref a1), .val (.int (0 : Int32)), .val (.int (Int32.ofNat 4)), .val (.ref b1), .val (.int (Int32.ofNat r2)), .val (.ref o3)] [(.ref o3)])
    exact Goes.outR X4 hx hlk Bd.returns rfl rfl (hb hby d4_56) (by rw [e4]; exact ⟨o3, rfl, N_3, K_3, sz_o3, Or.inr hA3⟩) (by decide) (by decide)
theorem d6_0 : decode jdk_52_method_15_code 0 = .ok (.iload_n 1, 1) := by decide +kernel
theorem d6_1 : decode jdk_52_method_15_code 1 = .ok (.aload_n 0, 1) := by decide +kernel
theorem d6_2 : decode jdk_52_method_15_code 2 = .ok (.arraylength, 1) := by decide +kernel
theorem d6_3 : decode jdk_52_method_15_code 3 = .ok (.isub, 1) := by decide +kernel
theorem d6_4 : decode jdk_52_method_15_code 4 = .ok (.bipush 31, 2) := by decide +kernel
theorem d6_6 : decode jdk_52_method_15_code 6 = .ok (.iushr, 1) := by decide +kernel
theorem d6_7 : decode jdk_52_method_15_code 7 = .ok (.i2b, 1) := by decide +kernel
theorem d6_8 : decode jdk_52_method_15_code 8 = .ok (.ireturn, 1) := by decide +kernel
theorem pn_6 : plainName "java/lang/StringUTF16" = true := by first | (simp [plainName, overriddenIn]; done) | decide +kernel
theorem ef_6 (m : MethodId) (a1 : Addr) (p2 : Int32) : entryFrame m #[(.ref a1), (.int p2)] 2 = mkF m 0 #[.val (.ref a1), .val (.int p2)] [] := by first | (simp [entryFrame, mkF, argsToLocals, Value.category]; done) | rfl
def Q6 (Z : State) (a1 : Addr) (p2 : Int32) (k : Nat) (f : Nat → Int32) (cv : Int32) (h0 : Heap) (n0 : Nat) (v : Option Value) (h : Heap) (L : List Loc) : Prop := PQ h0 (some (.int cv)) v h L
set_option maxRecDepth 65536 in
set_option maxHeartbeats 40000000 in
theorem rm6 (l : Launch) (Z : State) (a0 : Array Value) (hw : ∀ d ∈ tables_1, d.before a0 Z = true) (ws : List Jvm.Cond) (a1 : Addr) (p2 : Int32) (k : Nat) (f : Nat → Int32) (cv : Int32) (h0 : Heap) (n0 : Nat) (Z0 : n0 ≤ h0.size) (A_a1_0 : Ari Z h0 a1 .byte k f) (hcv : own_cf p2 k = cv) :
    MetFree l (⟨"java/lang/StringUTF16", "coderFromArrayLen", "([BI)B"⟩ : MethodName) (head1 (Jvm.Cond.code (⟨"java/lang/StringUTF16", "coderFromArrayLen", "([BI)B"⟩ : MethodName) jdk_52_method_15_code 2 (some .byte) :: ws) ({ frames := 0, cells := 0, slots := 0, locals := 0 } : Room)) (fun a U => a = #[(.ref a1), (.int p2)] ∧ Z.Warmed39 U.vm ∧ U.heap = h0) (fun _ _ _ _ _ => True) (fun _ U o U' => ∃ v L, o = .returned v ∧ Q6 Z a1 p2 k f cv h0 n0 v U'.heap L ∧ FrameEnd U o U' L ({ frames := 0, cells := 0, slots := 0, locals := 0 } : Room).cells ({ frames := 0, cells := 0, slots := 0, locals := 0 } : Room).slots) := by
  refine MetFree.of_bodySF (plainFor_of_name pn_6) hisR ?_
  intro p e s m args below meth c s₁ Bd hml0 hP hK
  obtain ⟨rfl, hZ, hh⟩ := hP
  have hx := Bd.exec
  have hby := Bd.bytes
  have hlk := Bd.notSynchronized
  have hml : c.maxLocals = 2 := hml0
  have hown : s.vm.findClass "java/lang/StringUTF16" = some m.cls := findClass_of_methodNamed Bd.named
  have hnm := (name_of_methodNamed Bd.named Bd.method).1
  have X0 : Stand p l e ({ frames := 0, cells := 0, slots := 0, locals := 0 } : Room) s m #[(.ref a1), (.int p2)] below meth c s₁ [] 0 0 := Stand.of_body Bd
  have e0 : s₁.heap = h0 := by rw [← hh, Bd.state]; rfl
  have N0 := Fr.nil n0
  have K0 : Keep h0 h0 [] := Keep.refl h0 _
  show Goes p e below s ({ frames := 0, cells := 0, slots := 0, locals := 0 } : Room).cells ({ frames := 0, cells := 0, slots := 0, locals := 0 } : Room).slots (Q6 Z a1 p2 k f cv h0 n0) s₁ (entryFrame m #[(.ref a1), (.int p2)] 2)
  refine Goes.step (fun t k => castTop (ef_6 m a1 p2) k) ?_
  refine Goes.step (fun _ k => XS.iloadN X0.here hx rfl (hb hby d6_0) rfl k) ?_
  refine Goes.step (fun _ k => XS.aloadN X0.here hx rfl (hb hby d6_1) rfl rfl k) ?_
  show Goes p e below s _ _ _ s₁ (mkF m 2 #[.val (.ref a1), .val (.int p2)] [(.ref a1), (.int p2)])
  refine Goes.step (fun _ k => rdL X0 hx hZ e0 A_a1_0 (g := (mkF m 2 #[.val (.ref a1), .val (.int p2)] [(.ref a1), (.int p2)])) rfl rfl (hb hby d6_2) _ k) ?_
  show Goes p e below s _ _ _ s₁ (mkF m 3 #[.val (.ref a1), .val (.int p2)] [(.int (Int32.ofNat k)), (.int p2)])
  refine Goes.step (fun _ k => XS.isub X0.here hx rfl (hb hby d6_3) rfl k) ?_
  show Goes p e below s _ _ _ s₁ (mkF m 4 #[.val (.ref a1), .val (.int p2)] [(.int (p2 - (Int32.ofNat k)))])
  refine Goes.step (fun _ k => XS.bipush X0.here hx rfl (hb hby d6_4) k) ?_
  refine Goes.step (fun _ k => XS.iushr X0.here hx rfl (hb hby d6_6) rfl k) ?_
  show Goes p e below s _ _ _ s₁ (mkF m 7 #[.val (.ref a1), .val (.int p2)] [(.int (((p2 - (Int32.ofNat k)).toUInt32 >>> ((31 : Int32) &&& 31).toUInt32).toInt32))])
  refine Goes.step (fun _ k => XS.i2b X0.here hx rfl (hb hby d6_7) rfl k) ?_
  show Goes p e below s _ _ _ s₁ (mkF m 8 #[.val (.ref a1), .val (.int p2)] [(.int ((((p2 - (Int32.ofNat k)).toUInt32 >>> ((31 : Int32) &&& 31).toUInt32).toInt32).toInt8.toInt32))])
  exact Goes.outN X0 hx hlk (t := .byte) Bd.returns (by simp) (hb hby d6_8) (by rw [e0]; exact ⟨by rw [← hcv]; rfl, rfl, rfl⟩) (by decide) (by decide)
theorem d2_0 : decode jdk_42_method_149_code 0 = .ok (.aload_n 0, 1) := by decide +kernel
theorem d2_1 : decode jdk_42_method_149_code 1 = .ok (.invokespecial 1, 3) := by decide +kernel
theorem d2_4 : decode jdk_42_method_149_code 4 = .ok (.iload_n 3, 1) := by decide +kernel
theorem d2_5 : decode jdk_42_method_149_code 5 = .ok (.ifCond .ne 22, 3) := by decide +kernel
theorem d2_8 : decode jdk_42_method_149_code 8 = .ok (.aload_n 0, 1) := by decide +kernel
theorem d2_9 : decode jdk_42_method_149_code 9 = .ok (.ldc 7, 2) := by decide +kernel
theorem d2_11 : decode jdk_42_method_149_code 11 = .ok (.getfield 9, 3) := by decide +kernel
theorem d2_14 : decode jdk_42_method_149_code 14 = .ok (.putfield 9, 3) := by decide +kernel
theorem d2_17 : decode jdk_42_method_149_code 17 = .ok (.aload_n 0, 1) := by decide +kernel
theorem d2_18 : decode jdk_42_method_149_code 18 = .ok (.ldc 7, 2) := by decide +kernel
theorem d2_20 : decode jdk_42_method_149_code 20 = .ok (.getfield 15, 3) := by decide +kernel
theorem d2_23 : decode jdk_42_method_149_code 23 = .ok (.putfield 15, 3) := by decide +kernel
theorem d2_26 : decode jdk_42_method_149_code 26 = .ok (.return_, 1) := by decide +kernel
theorem pn_2 : plainName "java/lang/String" = true := by first | (simp [plainName, overriddenIn]; done) | decide +kernel
theorem ef_2n0 (m : MethodId) (a1 : Addr) (a2 : Addr) : entryFrame m #[(.ref a1), (.ref a2), (.int (0 : Int32)), (.int (Int32.ofNat 0)), .null] 6 = mkF m 0 #[.val (.ref a1), .val (.ref a2), .val (.int (0 : Int32)), .val (.int (Int32.ofNat 0)), .val .null, .unset] [] := by first | (simp [entryFrame, mkF, argsToLocals, Value.category]; done) | rfl
def Q2n0 (Z : State) (a1 : Addr) (a2 : Addr) (G1 : Int32) (f : Nat → Int32) (h0 : Heap) (n0 : Nat) (v : Option Value) (h : Heap) (L : List Loc) : Prop := v = none ∧ Fr n0 L ∧ Keep h0 h [a1] ∧ Str Z h a1 0 f
set_option maxRecDepth 65536 in
set_option maxHeartbeats 40000000 in
theorem rm2n0 (l : Launch) (Z : State) (a0 : Array Value) (hw : ∀ d ∈ tables_1, d.before a0 Z = true) (ws : List Jvm.Cond) (a1 : Addr) (a2 : Addr) (G1 : Int32) (f : Nat → Int32) (h0 : Heap) (n0 : Nat) (Z0 : n0 ≤ h0.size) (O2 : Sta Z Z.heap "java/lang/String" "COMPACT_STRINGS" "Z" (.int G1)) (P3 : ¬ (G1 = (0 : Int32))) (OL : Old Z n0 h0) (O5 : Sta Z Z.heap "java/lang/StringUTF16" "$assertionsDisabled" "Z" (.int (1 : Int32))) (O6 : Sta Z Z.heap "java/lang/StringUTF16" "HI_BYTE_SHIFT" "I" (.int (0 : Int32))) (O7 : Sta Z Z.heap "java/lang/StringUTF16" "LO_BYTE_SHIFT" "I" (.int (8 : Int32))) (E_a1_0 : Exa Z h0 a1 "java/lang/String") (F_a1_value_0 : Fld Z h0 a1 "java/lang/String" "value" "[B" .null) (F_a1_coder_0 : Fld Z h0 a1 "java/lang/String" "coder" "B" (.int (0 : Int32))) (ge_a1 : n0 ≤ a1) (A_a2_0 : Ari Z h0 a2 .char 0 f) (rg : own_rg 0 f) (ne_a2_a1 : a2 ≠ a1) (HC1 : Jvm.Lit.constHeld Z "java/lang/String" 7) (hcw : Jvm.Lit.compactW.before a0 Z = true) :
    MetFree l (⟨"java/lang/String", "<init>", "([CIILjava/lang/Void;)V"⟩ : MethodName) (head1 (Jvm.Cond.code (⟨"java/lang/String", "<init>", "([CIILjava/lang/Void;)V"⟩ : MethodName) jdk_42_method_149_code 6 none :: ws) ({ frames := 1, cells := 2, slots := 4, locals := 12 } : Room)) (fun a U => a = #[(.ref a1), (.ref a2), (.int (0 : Int32)), (.int (Int32.ofNat 0)), .null] ∧ Z.Warmed39 U.vm ∧ U.heap = h0 ∧ U.vm.interned = Z.vm.interned) (fun _ _ _ _ _ => True) (fun _ U o U' => ∃ v L, o = .returned v ∧ Q2n0 Z a1 a2 G1 f h0 n0 v U'.heap L ∧ ReturnedEndW U o U' L ({ frames := 1, cells := 2, slots := 4, locals := 12 } : Room).cells ({ frames := 1, cells := 2, slots := 4, locals := 12 } : Room).slots) := by
  refine MetFree.of_bodySF (plainFor_of_name pn_2) hisR ?_
  intro p e s m args below meth c s₁ Bd hml0 hP hK
  obtain ⟨rfl, hZ, hh, hI⟩ := hP
  have hx := Bd.exec
  have hby := Bd.bytes
  have hlk := Bd.notSynchronized
  have hml : c.maxLocals = 6 := hml0
  have hown : s.vm.findClass "java/lang/String" = some m.cls := findClass_of_methodNamed Bd.named
  have hnm := (name_of_methodNamed Bd.named Bd.method).1
  have X0 : Stand p l e ({ frames := 1, cells := 2, slots := 4, locals := 12 } : Room) s m #[(.ref a1), (.ref a2), (.int (0 : Int32)), (.int (Int32.ofNat 0)), .null] below meth c s₁ [] 0 0 := Stand.of_body Bd
  have e0 : s₁.heap = h0 := by rw [← hh, Bd.state]; rfl
  have N0 := Fr.nil n0
  have K0 : Keep h0 h0 [a1] := Keep.refl h0 _
  show GoesW p e below s ({ frames := 1, cells := 2, slots := 4, locals := 12 } : Room).cells ({ frames := 1, cells := 2, slots := 4, locals := 12 } : Room).slots (Q2n0 Z a1 a2 G1 f h0 n0) s₁ (entryFrame m #[(.ref a1), (.ref a2), (.int (0 : Int32)), (.int (Int32.ofNat 0)), .null] 6)
  refine GoesW.step (fun t k => castTop (ef_2n0 m a1 a2) k) ?_
  have hkeep : ∀ (b : Addr) (cl : Cell), Z.heap[b]? = some cl → s.heap[b]? = some cl := fun b cl q => by rw [hh]; exact OL.2.2 b cl q
  have IB0 : IB Z s.vm [] := ⟨#[], by simp [hI], fun q hq => by simp at hq⟩
  have wS : ∀ a ∈ Bundle.stringAtoms, a.before a0 Z = true := fun d hd => by
    simp only [Bundle.stringAtoms, Bundle.sN, List.mem_cons, List.not_mem_nil, or_false] at hd
    rcases hd with rfl | rfl | rfl | rfl | rfl | rfl | rfl
    · exact (hw _ (List.mem_of_getElem? (i := 4) rfl))
    · exact (hw _ (List.mem_of_getElem? (i := 3) rfl))
    · exact (hw _ (List.mem_of_getElem? (i := 21) rfl))
    · exact (hw _ (List.mem_of_getElem? (i := 31) rfl))
    · exact (hw _ (List.mem_of_getElem? (i := 29) rfl))
    · exact (hw _ (List.mem_of_getElem? (i := 105) rfl))
    · exact (hw _ (List.mem_of_getElem? (i := 106) rfl))
  refine GoesW.step (fun _ k => XS.aloadN X0.here hx rfl (hb hby d2_0) rfl rfl k) ?_
  obtain ⟨T1, X1, e1, st1⟩ := initO X0 hx hZ hown (hw _ (List.mem_of_getElem? (i := 13) rfl)) (hw _ (List.mem_of_getElem? (i := 14) rfl)) (hw _ (List.mem_of_getElem? (i := 15) rfl)) e0 (g := (mkF m 1 #[.val (.ref a1), .val (.ref a2), .val (.int (0 : Int32)), .val (.int (Int32.ofNat 0)), .val .null, .unset] [(.ref a1)])) rfl (by rw [hml]; rfl) rfl (hb hby d2_1) (by decide) (W := 0) (by show 2 * 0 + _ ≤ _; exact Nat.le_of_eq rfl) (by decide)
  refine GoesW.step st1 ?_
  show GoesW p e below s _ _ _ T1 (mkF m 4 #[.val (.ref a1), .val (.ref a2), .val (.int (0 : Int32)), .val (.int (Int32.ofNat 0)), .val .null, .unset] [])
  refine GoesW.step (fun _ k => XS.iloadN X1.here hx rfl (hb hby d2_4) rfl k) ?_
  refine GoesW.step (fun _ k => XS.ifNo X1.here hx rfl (hb hby d2_5) rfl ((if0 _ _).trans (teq (by decide : (Int32.ofNat 0) = (0 : Int32))).2) k) ?_
  show GoesW p e below s _ _ _ T1 (mkF m 8 #[.val (.ref a1), .val (.ref a2), .val (.int (0 : Int32)), .val (.int (Int32.ofNat 0)), .val .null, .unset] [])
  refine GoesW.step (fun _ k => XS.aloadN X1.here hx rfl (hb hby d2_8) rfl rfl k) ?_
  show GoesW p e below s _ _ _ T1 (mkF m 9 #[.val (.ref a1), .val (.ref a2), .val (.int (0 : Int32)), .val (.int (Int32.ofNat 0)), .val .null, .unset] [(.ref a1)])
  obtain ⟨c2, T2, h2, k2, d2, X2, e2, E2, hS2, hk_2, hZ, hown, hE2, hC2, hV2, hB2, I2, Lt2, st2⟩ := ldcI (s := s) (vm0 := s.vm) (text := "") X1 hx hZ hown (hw _ (List.mem_of_getElem? (i := 104) rfl)) wS e1 ((State.WarmedH.refl s).since 0) (Nat.zero_le _) (Fr.nil _) hkeep IB0 (by decide) HC1 hcw (by decide) (n := 0) (by decide) (by decide) (g := (mkF m 9 #[.val (.ref a1), .val (.ref a2), .val (.int (0 : Int32)), .val (.int (Int32.ofNat 0)), .val .null, .unset] [(.ref a1)])) rfl (hb hby d2_9) (q := 0) (by decide) (by decide) (by decide) (by decide)
  refine GoesW.step st2 ?_
  have E_a1_2 := E_a1_0.ext E2
  have F_a1_value_2 := F_a1_value_0.ext E2
  have F_a1_coder_2 := F_a1_coder_0.ext E2
  have A_a2_2 := A_a2_0.ext E2
  have z_2 : n0 ≤ h2.size := Nat.le_trans Z0 E2.1
  have K_2 : Keep h0 h2 [a1] := K0.ext E2
  have ne_c2_a1 := own_fldne hV2 F_a1_value_2 (by simp)
  have ne_d2_a1 := Ari.neExa hB2 E_a1_2 (hw _ (List.mem_of_getElem? (i := 3) rfl))
  show GoesW p e below s _ _ _ T2 (mkF m 11 #[.val (.ref a1), .val (.ref a2), .val (.int (0 : Int32)), .val (.int (Int32.ofNat 0)), .val .null, .unset] [(.ref c2), (.ref a1)])
  obtain ⟨T3, X3, e3, st3⟩ := getF X2 hx hZ hown (host := "") (Or.inl (hw _ (List.mem_of_getElem? (i := 30) rfl))) Via.refl e2 hV2 (g := (mkF m 11 #[.val (.ref a1), .val (.ref a2), .val (.int (0 : Int32)), .val (.int (Int32.ofNat 0)), .val .null, .unset] [(.ref c2), (.ref a1)])) rfl rfl (hb hby d2_11)
  refine GoesW.step st3 ?_
  show GoesW p e below s _ _ _ T3 (mkF m 14 #[.val (.ref a1), .val (.ref a2), .val (.int (0 : Int32)), .val (.int (Int32.ofNat 0)), .val .null, .unset] [(.ref d2), (.ref a1)])
  obtain ⟨T4, h4, X4, e4, W4, st4⟩ := putF X3 hx hZ hown (host := "") (Or.inl (hw _ (List.mem_of_getElem? (i := 30) rfl))) Via.refl e3 F_a1_value_2 E_a1_2 (Or.inr ⟨(hw _ (List.mem_of_getElem? (i := 31) rfl)), rfl, hnm⟩) (hw _ (List.mem_of_getElem? (i := 3) rfl)) (ty := (.array .byte)) (by decide) rfl rfl (g := (mkF m 14 #[.val (.ref a1), .val (.ref a2), .val (.int (0 : Int32)), .val (.int (Int32.ofNat 0)), .val .null, .unset] [(.ref d2), (.ref a1)])) rfl rfl (hb hby d2_14)
  refine GoesW.step st4 ?_
  have E_a1_4 := E_a1_2.wr W4
  have F_a1_coder_4 := F_a1_coder_2.other W4 (Or.inr (slot_ne (Or.inr (hw _ (List.mem_of_getElem? (i := 29) rfl))) (Or.inr (hw _ (List.mem_of_getElem? (i := 31) rfl))) (by decide) (t := .byte) (t' := (.array .byte)) (by decide) (by decide)))
  have A_a2_4 := A_a2_2.other W4 ne_a2_a1
  have hE2_4 := hE2.wr W4
  have hV2_4 := hV2.other W4 (Or.inl ne_c2_a1)
  have hC2_4 := hC2.other W4 (Or.inl ne_c2_a1)
  have hB2_4 := hB2.other W4 ne_d2_a1
  have hk_4 := Nat.le_trans hk_2 (Nat.le_of_eq W4.size.symm)
  have z_4 : n0 ≤ h4.size := by rw [W4.size]; exact z_2
  have K_4 : Keep h0 h4 [a1] := K_2.wr W4 (Or.inl (List.mem_of_getElem? (i := 0) rfl))
  have N_4 := Fr.snoc X4 N0 ge_a1
  have F_a1_value_4 : Fld Z h4 a1 "java/lang/String" "value" "[B" (.ref d2) := F_a1_value_2.same W4
  show GoesW p e below s _ _ _ T4 (mkF m 17 #[.val (.ref a1), .val (.ref a2), .val (.int (0 : Int32)), .val (.int (Int32.ofNat 0)), .val .null, .unset] [])
  refine GoesW.step (fun _ k => XS.aloadN X4.here hx rfl (hb hby d2_17) rfl rfl k) ?_
  show GoesW p e below s _ _ _ T4 (mkF m 18 #[.val (.ref a1), .val (.ref a2), .val (.int (0 : Int32)), .val (.int (Int32.ofNat 0)), .val .null, .unset] [(.ref a1)])
  refine GoesW.step (fun _ k => ldcAgain (s := s) (vm0 := T2.vm) X4 hx hZ hown (hw _ (List.mem_of_getElem? (i := 104) rfl)) Lt2 (g := (mkF m 18 #[.val (.ref a1), .val (.ref a2), .val (.int (0 : Int32)), .val (.int (Int32.ofNat 0)), .val .null, .unset] [(.ref a1)])) rfl (hb hby d2_18) _ k) ?_
  show GoesW p e below s _ _ _ T4 (mkF m 20 #[.val (.ref a1), .val (.ref a2), .val (.int (0 : Int32)), .val (.int (Int32.ofNat 0)), .val .null, .unset] [(.ref c2), (.ref a1)])
  obtain ⟨T5, X5, e5, st5⟩ := getF X4 hx hZ hown (host := "") (Or.inl (hw _ (List.mem_of_getElem? (i := 28) rfl))) Via.refl e4 hC2_4 (g := (mkF m 20 #[.val (.ref a1), .val (.ref a2), .val (.int (0 : Int32)), .val (.int (Int32.ofNat 0)), .val .null, .unset] [(.ref c2), (.ref a1)])) rfl rfl (hb hby d2_20)
  refine GoesW.step st5 ?_
  show GoesW p e below s _ _ _ T5 (mkF m 23 #[.val (.ref a1), .val (.ref a2), .val (.int (0 : Int32)), .val (.int (Int32.ofNat 0)), .val .null, .unset] [(.int (0 : Int32)), (.ref a1)])
  obtain ⟨T6, h6, X6, e6, W6, st6⟩ := putF X5 hx hZ hown (host := "") (Or.inl (hw _ (List.mem_of_getElem? (i := 28) rfl))) Via.refl e5 F_a1_coder_4 E_a1_4 (Or.inr ⟨(hw _ (List.mem_of_getElem? (i := 29) rfl)), rfl, hnm⟩) (hw _ (List.mem_of_getElem? (i := 3) rfl)) (ty := .byte) (by decide) rfl rfl (g := (mkF m 23 #[.val (.ref a1), .val (.ref a2), .val (.int (0 : Int32)), .val (.int (Int32.ofNat 0)), .val .null, .unset] [(.int (0 : Int32)), (.ref a1)])) rfl rfl (hb hby d2_23)
  refine GoesW.step st6 ?_
  have E_a1_6 := E_a1_4.wr W6
  have F_a1_value_6 := F_a1_value_4.other W6 (Or.inr (slot_ne (Or.inr (hw _ (List.mem_of_getElem? (i := 31) rfl))) (Or.inr (hw _ (List.mem_of_getElem? (i := 29) rfl))) (by decide) (t := (.array .byte)) (t' := .byte) (by decide) (by decide)))
  have A_a2_6 := A_a2_4.other W6 ne_a2_a1
  have hE2_6 := hE2_4.wr W6
  have hV2_6 := hV2_4.other W6 (Or.inl ne_c2_a1)
  have hC2_6 := hC2_4.other W6 (Or.inl ne_c2_a1)
  have hB2_6 := hB2_4.other W6 ne_d2_a1
  have hk_6 := Nat.le_trans hk_4 (Nat.le_of_eq W6.size.symm)
  have z_6 : n0 ≤ h6.size := by rw [W6.size]; exact z_4
  have K_6 : Keep h0 h6 [a1] := K_4.wr W6 (Or.inl (List.mem_of_getElem? (i := 0) rfl))
  have N_6 := Fr.snoc X6 N_4 ge_a1
  have F_a1_coder_6 : Fld Z h6 a1 "java/lang/String" "coder" "B" (.int (0 : Int32)) := F_a1_coder_4.same W6
  show GoesW p e below s _ _ _ T6 (mkF m 26 #[.val (.ref a1), .val (.ref a2), .val (.int (0 : Int32)), .val (.int (Int32.ofNat 0)), .val .null, .unset] [])
  exact GoesW.outV (s := s) (vm₁ := T2.vm) X6 hS2 (by first | (rw [e6]; exact hk_6) | exact Nat.le_refl _) hx hlk Bd.returns (hb hby d2_26) (by rw [e6]; exact ⟨rfl, N_6, K_6, ⟨E_a1_6, d2, F_a1_value_6, Or.inl ⟨F_a1_coder_6, hB2_6.cast (fun j hj => absurd hj (Nat.not_lt_zero j)), fun j hj => absurd hj (Nat.not_lt_zero j)⟩⟩⟩) (by decide) (by decide)
theorem d1_0 : decode jdk_42_method_3_code 0 = .ok (.aload_n 0, 1) := by decide +kernel
theorem d1_1 : decode jdk_42_method_3_code 1 = .ok (.aload_n 1, 1) := by decide +kernel
theorem d1_2 : decode jdk_42_method_3_code 2 = .ok (.iconst 0, 1) := by decide +kernel
theorem d1_3 : decode jdk_42_method_3_code 3 = .ok (.aload_n 1, 1) := by decide +kernel
theorem d1_4 : decode jdk_42_method_3_code 4 = .ok (.arraylength, 1) := by decide +kernel
theorem d1_5 : decode jdk_42_method_3_code 5 = .ok (.aconst_null, 1) := by decide +kernel
theorem d1_6 : decode jdk_42_method_3_code 6 = .ok (.invokespecial 27, 3) := by decide +kernel
theorem d1_9 : decode jdk_42_method_3_code 9 = .ok (.return_, 1) := by decide +kernel
theorem pn_1 : plainName "java/lang/String" = true := by first | (simp [plainName, overriddenIn]; done) | decide +kernel
theorem pd_1n0_0 : parseMethodDescriptor "([CIILjava/lang/Void;)V" = some ⟨[(.array .char), .int, .int, (.object "java/lang/Void")], none⟩ := by decide +kernel
theorem ef_1n0 (m : MethodId) (a1 : Addr) (a2 : Addr) : entryFrame m #[(.ref a1), (.ref a2)] 2 = mkF m 0 #[.val (.ref a1), .val (.ref a2)] [] := by first | (simp [entryFrame, mkF, argsToLocals, Value.category]; done) | rfl
def Q1n0 (Z : State) (a1 : Addr) (a2 : Addr) (G1 : Int32) (f : Nat → Int32) (h0 : Heap) (n0 : Nat) (v : Option Value) (h : Heap) (L : List Loc) : Prop := v = none ∧ Fr n0 L ∧ Keep h0 h [a1] ∧ Str Z h a1 0 f
set_option maxRecDepth 65536 in
set_option maxHeartbeats 40000000 in
theorem rm1n0 (l : Launch) (Z : State) (a0 : Array Value) (hw : ∀ d ∈ tables_1, d.before a0 Z = true) (ws : List Jvm.Cond) (a1 : Addr) (a2 : Addr) (G1 : Int32) (f : Nat → Int32) (h0 : Heap) (n0 : Nat) (Z0 : n0 ≤ h0.size) (O2 : Sta Z Z.heap "java/lang/String" "COMPACT_STRINGS" "Z" (.int G1)) (P3 : ¬ (G1 = (0 : Int32))) (OL : Old Z n0 h0) (O5 : Sta Z Z.heap "java/lang/StringUTF16" "$assertionsDisabled" "Z" (.int (1 : Int32))) (O6 : Sta Z Z.heap "java/lang/StringUTF16" "HI_BYTE_SHIFT" "I" (.int (0 : Int32))) (O7 : Sta Z Z.heap "java/lang/StringUTF16" "LO_BYTE_SHIFT" "I" (.int (8 : Int32))) (E_a1_0 : Exa Z h0 a1 "java/lang/String") (F_a1_value_0 : Fld Z h0 a1 "java/lang/String" "value" "[B" .null) (F_a1_coder_0 : Fld Z h0 a1 "java/lang/String" "coder" "B" (.int (0 : Int32))) (ge_a1 : n0 ≤ a1) (A_a2_0 : Ari Z h0 a2 .char 0 f) (rg : own_rg 0 f) (ne_a2_a1 : a2 ≠ a1) (HC1 : Jvm.Lit.constHeld Z "java/lang/String" 7) (hcw : Jvm.Lit.compactW.before a0 Z = true) :
    MetFree l (⟨"java/lang/String", "<init>", "([C)V"⟩ : MethodName) (head1 (Jvm.Cond.code (⟨"java/lang/String", "<init>", "([C)V"⟩ : MethodName) jdk_42_method_3_code 2 none :: ws) ({ frames := 2, cells := 2, slots := 4, locals := 29 } : Room)) (fun a U => a = #[(.ref a1), (.ref a2)] ∧ Z.Warmed39 U.vm ∧ U.heap = h0 ∧ U.vm.interned = Z.vm.interned) (fun _ _ _ _ _ => True) (fun _ U o U' => ∃ v L, o = .returned v ∧ Q1n0 Z a1 a2 G1 f h0 n0 v U'.heap L ∧ ReturnedEndW U o U' L ({ frames := 2, cells := 2, slots := 4, locals := 29 } : Room).cells ({ frames := 2, cells := 2, slots := 4, locals := 29 } : Room).slots) := by
  refine MetFree.of_bodySF (plainFor_of_name pn_1) hisR ?_
  intro p e s m args below meth c s₁ Bd hml0 hP hK
  obtain ⟨rfl, hZ, hh, hI⟩ := hP
  have hx := Bd.exec
  have hby := Bd.bytes
  have hlk := Bd.notSynchronized
  have hml : c.maxLocals = 2 := hml0
  have hown : s.vm.findClass "java/lang/String" = some m.cls := findClass_of_methodNamed Bd.named
  have hnm := (name_of_methodNamed Bd.named Bd.method).1
  have X0 : Stand p l e ({ frames := 2, cells := 2, slots := 4, locals := 29 } : Room) s m #[(.ref a1), (.ref a2)] below meth c s₁ [] 0 0 := Stand.of_body Bd
  have e0 : s₁.heap = h0 := by rw [← hh, Bd.state]; rfl
  have N0 := Fr.nil n0
  have K0 : Keep h0 h0 [a1] := Keep.refl h0 _
  show GoesW p e below s ({ frames := 2, cells := 2, slots := 4, locals := 29 } : Room).cells ({ frames := 2, cells := 2, slots := 4, locals := 29 } : Room).slots (Q1n0 Z a1 a2 G1 f h0 n0) s₁ (entryFrame m #[(.ref a1), (.ref a2)] 2)
  refine GoesW.step (fun t k => castTop (ef_1n0 m a1 a2) k) ?_
  refine GoesW.step (fun _ k => XS.aloadN X0.here hx rfl (hb hby d1_0) rfl rfl k) ?_
  refine GoesW.step (fun _ k => XS.aloadN X0.here hx rfl (hb hby d1_1) rfl rfl k) ?_
  show GoesW p e below s _ _ _ s₁ (mkF m 2 #[.val (.ref a1), .val (.ref a2)] [(.ref a2), (.ref a1)])
  refine GoesW.step (fun _ k => XS.iconst X0.here hx rfl (hb hby d1_2) k) ?_
  refine GoesW.step (fun _ k => XS.aloadN X0.here hx rfl (hb hby d1_3) rfl rfl k) ?_
  show GoesW p e below s _ _ _ s₁ (mkF m 4 #[.val (.ref a1), .val (.ref a2)] [(.ref a2), (.int (0 : Int32)), (.ref a2), (.ref a1)])
  refine GoesW.step (fun _ k => rdL X0 hx hZ e0 A_a2_0 (g := (mkF m 4 #[.val (.ref a1), .val (.ref a2)] [(.ref a2), (.int (0 : Int32)), (.ref a2), (.ref a1)])) rfl rfl (hb hby d1_4) _ k) ?_
  show GoesW p e below s _ _ _ s₁ (mkF m 5 #[.val (.ref a1), .val (.ref a2)] [(.int (Int32.ofNat 0)), (.int (0 : Int32)), (.ref a2), (.ref a1)])
  refine GoesW.step (fun _ k => XS.aconstNull X0.here hx rfl (hb hby d1_5) k) ?_
  show GoesW p e below s _ _ _ s₁ (mkF m 6 #[.val (.ref a1), .val (.ref a2)] [.null, (.int (Int32.ofNat 0)), (.int (0 : Int32)), (.ref a2), (.ref a1)])
  obtain ⟨v1, T1, h1, L1, X1, e1, hS1, hZ, hown, Q1, st1⟩ := callXIW X0 hx hZ hI (b := a1) (y := (⟨"java/lang/String", "<init>", "([CIILjava/lang/Void;)V"⟩ : MethodName)) hown rfl (hw _ (List.mem_of_getElem? (i := 9) rfl)) (hw _ (List.mem_of_getElem? (i := 10) rfl)) (hw _ (List.mem_of_getElem? (i := 12) rfl)) (hw _ (List.mem_of_getElem? (i := 4) rfl)) (by decide) (W := 0) (argsL := [(.ref a2), (.int (0 : Int32)), (.int (Int32.ofNat 0)), .null]) (rest := []) (rm2n0 l Z a0 hw [] a1 a2 G1 f h0 n0 Z0 O2 P3 (OL.keep K0 (allS ge_a1 all0)) O5 O6 O7 E_a1_0 F_a1_value_0 F_a1_coder_0 ge_a1 A_a2_0 rg ne_a2_a1 HC1 hcw) (by decide) (by decide) (by decide) (by decide) e0 (g := (mkF m 6 #[.val (.ref a1), .val (.ref a2)] [.null, (.int (Int32.ofNat 0)), (.int (0 : Int32)), (.ref a2), (.ref a1)])) rfl (by rw [hml]; rfl) (lenOf pd_1n0_0 rfl) rfl (by show 2 * 0 + _ ≤ _; exact Nat.le_of_eq rfl) (hb hby d1_6)
  obtain ⟨rfl, NQ1, KQ1, hT1⟩ := Q1
  refine GoesW.step st1 ?_
  have E_a1_1 := E_a1_0.keep KQ1
  have A_a2_1 := A_a2_0.keep KQ1 (ninS ne_a2_a1 nin0)
  have z_1 : n0 ≤ h1.size := Nat.le_trans Z0 KQ1.1
  have K_1 : Keep h0 h1 [a1] := Keep.trans K0 KQ1 (allS (Or.inl (List.mem_of_getElem? (i := 0) rfl)) all0)
  have N_1 := Fr.app N0 NQ1
  have hk_1 := Nat.le_of_eq (congrArg Array.size e1)
  show GoesW p e below s _ _ _ T1 (mkF m 9 #[.val (.ref a1), .val (.ref a2)] [])
  exact GoesW.outV (s := s) (vm₁ := T1.vm) X1 hS1 (by first | (rw [e1]; exact hk_1) | exact Nat.le_refl _) hx hlk Bd.returns (hb hby d1_9) (by rw [e1]; exact ⟨rfl, N_1, K_1, hT1⟩) (by decide) (by decide)
theorem d2_27 : decode jdk_42_method_149_code 27 = .ok (.getstatic 38, 3) := by decide +kernel
theorem d2_30 : decode jdk_42_method_149_code 30 = .ok (.ifCond .eq 28, 3) := by decide +kernel
theorem d2_33 : decode jdk_42_method_149_code 33 = .ok (.aload_n 1, 1) := by decide +kernel
theorem d2_34 : decode jdk_42_method_149_code 34 = .ok (.iload_n 2, 1) := by decide +kernel
theorem d2_35 : decode jdk_42_method_149_code 35 = .ok (.iload_n 3, 1) := by decide +kernel
theorem d2_36 : decode jdk_42_method_149_code 36 = .ok (.invokestatic 177, 3) := by decide +kernel
theorem d2_39 : decode jdk_42_method_149_code 39 = .ok (.astore 5, 2) := by decide +kernel
theorem d2_41 : decode jdk_42_method_149_code 41 = .ok (.aload_n 0, 1) := by decide +kernel
theorem d2_42 : decode jdk_42_method_149_code 42 = .ok (.aload 5, 2) := by decide +kernel
theorem d2_44 : decode jdk_42_method_149_code 44 = .ok (.iload_n 3, 1) := by decide +kernel
theorem d2_45 : decode jdk_42_method_149_code 45 = .ok (.invokestatic 47, 3) := by decide +kernel
theorem d2_48 : decode jdk_42_method_149_code 48 = .ok (.putfield 15, 3) := by decide +kernel
theorem d2_51 : decode jdk_42_method_149_code 51 = .ok (.aload_n 0, 1) := by decide +kernel
theorem d2_52 : decode jdk_42_method_149_code 52 = .ok (.aload 5, 2) := by decide +kernel
theorem d2_54 : decode jdk_42_method_149_code 54 = .ok (.putfield 9, 3) := by decide +kernel
theorem d2_57 : decode jdk_42_method_149_code 57 = .ok (.return_, 1) := by decide +kernel
theorem pd_2n1_0 : parseMethodDescriptor "([CII)[B" = some ⟨[(.array .char), .int, .int], some (.array .byte)⟩ := by decide +kernel
theorem pd_2n1_1 : parseMethodDescriptor "([BI)B" = some ⟨[(.array .byte), .int], some .byte⟩ := by decide +kernel
theorem ef_2n1 (m : MethodId) (a1 : Addr) (a2 : Addr) : entryFrame m #[(.ref a1), (.ref a2), (.int (0 : Int32)), (.int (Int32.ofNat 1)), .null] 6 = mkF m 0 #[.val (.ref a1), .val (.ref a2), .val (.int (0 : Int32)), .val (.int (Int32.ofNat 1)), .val .null, .unset] [] := by first | (simp [entryFrame, mkF, argsToLocals, Value.category]; done) | rfl
def Q2n1 (Z : State) (a1 : Addr) (a2 : Addr) (G1 : Int32) (f : Nat → Int32) (h0 : Heap) (n0 : Nat) (v : Option Value) (h : Heap) (L : List Loc) : Prop := v = none ∧ Fr n0 L ∧ Keep h0 h [a1] ∧ Str Z h a1 1 f
set_option maxRecDepth 65536 in
set_option maxHeartbeats 40000000 in
theorem rm2n1 (l : Launch) (Z : State) (a0 : Array Value) (hw : ∀ d ∈ tables_1, d.before a0 Z = true) (ws : List Jvm.Cond) (a1 : Addr) (a2 : Addr) (G1 : Int32) (f : Nat → Int32) (h0 : Heap) (n0 : Nat) (Z0 : n0 ≤ h0.size) (O2 : Sta Z Z.heap "java/lang/String" "COMPACT_STRINGS" "Z" (.int G1)) (P3 : ¬ (G1 = (0 : Int32))) (OL : Old Z n0 h0) (O5 : Sta Z Z.heap "java/lang/StringUTF16" "$assertionsDisabled" "Z" (.int (1 : Int32))) (O6 : Sta Z Z.heap "java/lang/StringUTF16" "HI_BYTE_SHIFT" "I" (.int (0 : Int32))) (O7 : Sta Z Z.heap "java/lang/StringUTF16" "LO_BYTE_SHIFT" "I" (.int (8 : Int32))) (E_a1_0 : Exa Z h0 a1 "java/lang/String") (F_a1_value_0 : Fld Z h0 a1 "java/lang/String" "value" "[B" .null) (F_a1_coder_0 : Fld Z h0 a1 "java/lang/String" "coder" "B" (.int (0 : Int32))) (ge_a1 : n0 ≤ a1) (A_a2_0 : Ari Z h0 a2 .char 1 f) (rg : own_rg 1 f) (ne_a2_a1 : a2 ≠ a1) :
    MetFree l (⟨"java/lang/String", "<init>", "([CIILjava/lang/Void;)V"⟩ : MethodName) (head1 (Jvm.Cond.code (⟨"java/lang/String", "<init>", "([CIILjava/lang/Void;)V"⟩ : MethodName) jdk_42_method_149_code 6 none :: ws) ({ frames := 4, cells := 2, slots := 9, locals := 57 } : Room)) (fun a U => a = #[(.ref a1), (.ref a2), (.int (0 : Int32)), (.int (Int32.ofNat 1)), .null] ∧ Z.Warmed39 U.vm ∧ U.heap = h0) (fun _ _ _ _ _ => True) (fun _ U o U' => ∃ v L, o = .returned v ∧ Q2n1 Z a1 a2 G1 f h0 n0 v U'.heap L ∧ FrameEnd U o U' L ({ frames := 4, cells := 2, slots := 9, locals := 57 } : Room).cells ({ frames := 4, cells := 2, slots := 9, locals := 57 } : Room).slots) := by
  refine MetFree.of_bodySF (plainFor_of_name pn_2) hisR ?_
  intro p e s m args below meth c s₁ Bd hml0 hP hK
  obtain ⟨rfl, hZ, hh⟩ := hP
  have hx := Bd.exec
  have hby := Bd.bytes
  have hlk := Bd.notSynchronized
  have hml : c.maxLocals = 6 := hml0
  have hown : s.vm.findClass "java/lang/String" = some m.cls := findClass_of_methodNamed Bd.named
  have hnm := (name_of_methodNamed Bd.named Bd.method).1
  have X0 : Stand p l e ({ frames := 4, cells := 2, slots := 9, locals := 57 } : Room) s m #[(.ref a1), (.ref a2), (.int (0 : Int32)), (.int (Int32.ofNat 1)), .null] below meth c s₁ [] 0 0 := Stand.of_body Bd
  have e0 : s₁.heap = h0 := by rw [← hh, Bd.state]; rfl
  have N0 := Fr.nil n0
  have K0 : Keep h0 h0 [a1] := Keep.refl h0 _
  show Goes p e below s ({ frames := 4, cells := 2, slots := 9, locals := 57 } : Room).cells ({ frames := 4, cells := 2, slots := 9, locals := 57 } : Room).slots (Q2n1 Z a1 a2 G1 f h0 n0) s₁ (entryFrame m #[(.ref a1), (.ref a2), (.int (0 : Int32)), (.int (Int32.ofNat 1)), .null] 6)
  refine Goes.step (fun t k => castTop (ef_2n1 m a1 a2) k) ?_
  refine Goes.step (fun _ k => XS.aloadN X0.here hx rfl (hb hby d2_0) rfl rfl k) ?_
  obtain ⟨T1, X1, e1, st1⟩ := initO X0 hx hZ hown (hw _ (List.mem_of_getElem? (i := 13) rfl)) (hw _ (List.mem_of_getElem? (i := 14) rfl)) (hw _ (List.mem_of_getElem? (i := 15) rfl)) e0 (g := (mkF m 1 #[.val (.ref a1), .val (.ref a2), .val (.int (0 : Int32)), .val (.int (Int32.ofNat 1)), .val .null, .unset] [(.ref a1)])) rfl (by rw [hml]; rfl) rfl (hb hby d2_1) (by decide) (W := 0) (by show 2 * 0 + _ ≤ _; exact Nat.le_of_eq rfl) (by decide)
  refine Goes.step st1 ?_
  show Goes p e below s _ _ _ T1 (mkF m 4 #[.val (.ref a1), .val (.ref a2), .val (.int (0 : Int32)), .val (.int (Int32.ofNat 1)), .val .null, .unset] [])
  refine Goes.step (fun _ k => XS.iloadN X1.here hx rfl (hb hby d2_4) rfl k) ?_
  refine Goes.step (fun _ k => XS.ifYes X1.here hx rfl (pc0 := 5) (pc' := 27) rfl (hb hby d2_5) rfl ((if0 _ _).trans (feq (by decide : ¬ ((Int32.ofNat 1) = (0 : Int32)))).2) (by decide) (by decide) k) ?_
  show Goes p e below s _ _ _ T1 (mkF m 27 #[.val (.ref a1), .val (.ref a2), .val (.int (0 : Int32)), .val (.int (Int32.ofNat 1)), .val .null, .unset] [])
  obtain ⟨T2, X2, e2, st2⟩ := getS2 X1 hx hZ hown (host := "") (Or.inl (hw _ (List.mem_of_getElem? (i := 16) rfl))) Via.refl e1 (O2.ext (OL.keep K0 (allS ge_a1 all0)).2) (g := (mkF m 27 #[.val (.ref a1), .val (.ref a2), .val (.int (0 : Int32)), .val (.int (Int32.ofNat 1)), .val .null, .unset] [])) rfl (hb hby d2_27)
  refine Goes.step st2 ?_
  show Goes p e below s _ _ _ T2 (mkF m 30 #[.val (.ref a1), .val (.ref a2), .val (.int (0 : Int32)), .val (.int (Int32.ofNat 1)), .val .null, .unset] [(.int G1)])
  refine Goes.step (fun _ k => XS.ifNo X2.here hx rfl (hb hby d2_30) rfl ((if0 _ _).trans (feq P3).1) k) ?_
  show Goes p e below s _ _ _ T2 (mkF m 33 #[.val (.ref a1), .val (.ref a2), .val (.int (0 : Int32)), .val (.int (Int32.ofNat 1)), .val .null, .unset] [])
  refine Goes.step (fun _ k => XS.aloadN X2.here hx rfl (hb hby d2_33) rfl rfl k) ?_
  refine Goes.step (fun _ k => XS.iloadN X2.here hx rfl (hb hby d2_34) rfl k) ?_
  show Goes p e below s _ _ _ T2 (mkF m 35 #[.val (.ref a1), .val (.ref a2), .val (.int (0 : Int32)), .val (.int (Int32.ofNat 1)), .val .null, .unset] [(.int (0 : Int32)), (.ref a2)])
  refine Goes.step (fun _ k => XS.iloadN X2.here hx rfl (hb hby d2_35) rfl k) ?_
  obtain ⟨v3, T3, h3, L3, X3, e3, Q3, st3⟩ := callX X2 hx hZ (y := (⟨"java/lang/StringUTF16", "compress", "([CII)[B"⟩ : MethodName)) hown (hw _ (List.mem_of_getElem? (i := 17) rfl)) (hw _ (List.mem_of_getElem? (i := 18) rfl)) (hw _ (List.mem_of_getElem? (i := 19) rfl)) (hw _ (List.mem_of_getElem? (i := 20) rfl)) (by decide) (W := 0) (argsL := [(.ref a2), (.int (0 : Int32)), (.int (Int32.ofNat 1))]) (rest := []) (rm4n1 l Z a0 hw [] a2 f h0 n0 Z0 (OL.keep K0 (allS ge_a1 all0)) O5 O6 O7 A_a2_0 rg) (by decide) (by decide) (by decide) (by decide) e2 (g := (mkF m 36 #[.val (.ref a1), .val (.ref a2), .val (.int (0 : Int32)), .val (.int (Int32.ofNat 1)), .val .null, .unset] [(.int (Int32.ofNat 1)), (.int (0 : Int32)), (.ref a2)])) rfl (by rw [hml]; rfl) (lenOf pd_2n1_0 rfl) rfl (by show 2 * 0 + _ ≤ _; exact Nat.le_of_eq rfl) (hb hby d2_36)
  obtain ⟨o3, rfl, NQ3, KQ3, so3, hD3⟩ := Q3
  refine Goes.step st3 ?_
  have E_a1_3 := E_a1_0.keep KQ3
  have F_a1_value_3 := F_a1_value_0.keep KQ3 nin0
  have F_a1_coder_3 := F_a1_coder_0.keep KQ3 nin0
  have A_a2_3 := A_a2_0.keep KQ3 nin0
  have z_3 : n0 ≤ h3.size := Nat.le_trans Z0 KQ3.1
  have K_3 : Keep h0 h3 [a1] := Keep.trans K0 KQ3 all0
  have N_3 := Fr.app N0 NQ3
  have ne_o3_a1 : o3 ≠ a1 := Nat.ne_of_gt (Nat.lt_of_lt_of_le E_a1_0.lt so3)
  have ne_o3_a2 : o3 ≠ a2 := Nat.ne_of_gt (Nat.lt_of_lt_of_le A_a2_0.lt so3)
  have ge_o3 : n0 ≤ o3 := Nat.le_trans Z0 so3
  have sz_o3 : h0.size ≤ o3 := Nat.le_trans K0.1 so3
  show Goes p e below s _ _ _ T3 (mkF m 39 #[.val (.ref a1), .val (.ref a2), .val (.int (0 : Int32)), .val (.int (Int32.ofNat 1)), .val .null, .unset] [(.ref o3)])
  rcases hD3 with ⟨hAl, hall⟩ | hAu
  · have hA0 := hAl
    refine Goes.step (fun _ k => XS.astore X3.here hx rfl (hb hby d2_39) rfl rfl (l' := #[.val (.ref a1), .val (.ref a2), .val (.int (0 : Int32)), .val (.int (Int32.ofNat 1)), .val .null, .val (.ref o3)]) rfl k) ?_
    refine Goes.step (fun _ k => XS.aloadN X3.here hx rfl (hb hby d2_41) rfl rfl k) ?_
    show Goes p e below s _ _ _ T3 (mkF m 42 #[.val (.ref a1), .val (.ref a2), .val (.int (0 : Int32)), .val (.int (Int32.ofNat 1)), .val .null, .val (.ref o3)] [(.ref a1)])
    refine Goes.step (fun _ k => XS.aload X3.here hx rfl (hb hby d2_42) rfl rfl k) ?_
    refine Goes.step (fun _ k => XS.iloadN X3.here hx rfl (hb hby d2_44) rfl k) ?_
    show Goes p e below s _ _ _ T3 (mkF m 45 #[.val (.ref a1), .val (.ref a2), .val (.int (0 : Int32)), .val (.int (Int32.ofNat 1)), .val .null, .val (.ref o3)] [(.int (Int32.ofNat 1)), (.ref o3), (.ref a1)])
    obtain ⟨T4, X4, e4, st4⟩ := own_pure (r := some (.int (0 : Int32))) (fun _ _ _ q => q) (callX X3 hx hZ (y := (⟨"java/lang/StringUTF16", "coderFromArrayLen", "([BI)B"⟩ : MethodName)) hown (hw _ (List.mem_of_getElem? (i := 25) rfl)) (hw _ (List.mem_of_getElem? (i := 26) rfl)) (hw _ (List.mem_of_getElem? (i := 19) rfl)) (hw _ (List.mem_of_getElem? (i := 27) rfl)) (by decide) (W := 1) (argsL := [(.ref o3), (.int (Int32.ofNat 1))]) (rest := [(.ref a1)]) (rm6 l Z a0 hw [] o3 (Int32.ofNat 1) (1) (fun j => own_bb (f j)) (0 : Int32) h3 n0 z_3 hAl (by decide)) (by decide) (by decide) (by decide) (by decide) e3 (g := (mkF m 45 #[.val (.ref a1), .val (.ref a2), .val (.int (0 : Int32)), .val (.int (Int32.ofNat 1)), .val .null, .val (.ref o3)] [(.int (Int32.ofNat 1)), (.ref o3), (.ref a1)])) rfl (by rw [hml]; rfl) (lenOf pd_2n1_1 rfl) rfl (by show 2 * 0 + _ ≤ _; exact Nat.le_of_eq rfl) (hb hby d2_45))
    refine Goes.step st4 ?_
    show Goes p e below s _ _ _ T4 (mkF m 48 #[.val (.ref a1), .val (.ref a2), .val (.int (0 : Int32)), .val (.int (Int32.ofNat 1)), .val .null, .val (.ref o3)] [(.int (0 : Int32)), (.ref a1)])
    obtain ⟨T5, h5, X5, e5, W5, st5⟩ := putF X4 hx hZ hown (host := "") (Or.inl (hw _ (List.mem_of_getElem? (i := 28) rfl))) Via.refl e4 F_a1_coder_3 E_a1_3 (Or.inr ⟨(hw _ (List.mem_of_getElem? (i := 29) rfl)), rfl, hnm⟩) (hw _ (List.mem_of_getElem? (i := 3) rfl)) (ty := .byte) (by decide) rfl rfl (g := (mkF m 48 #[.val (.ref a1), .val (.ref a2), .val (.int (0 : Int32)), .val (.int (Int32.ofNat 1)), .val .null, .val (.ref o3)] [(.int (0 : Int32)), (.ref a1)])) rfl rfl (hb hby d2_48)
    refine Goes.step st5 ?_
    have E_a1_5 := E_a1_3.wr W5
    have F_a1_value_5 := F_a1_value_3.other W5 (Or.inr (slot_ne (Or.inr (hw _ (List.mem_of_getElem? (i := 31) rfl))) (Or.inr (hw _ (List.mem_of_getElem? (i := 29) rfl))) (by decide) (t := (.array .byte)) (t' := .byte) (by decide) (by decide)))
    have A_a2_5 := A_a2_3.other W5 ne_a2_a1
    have hAl_5 := hAl.other W5 ne_o3_a1
    have z_5 : n0 ≤ h5.size := by rw [W5.size]; exact z_3
    have K_5 : Keep h0 h5 [a1] := K_3.wr W5 (Or.inl (List.mem_of_getElem? (i := 0) rfl))
    have N_5 := Fr.snoc X5 N_3 ge_a1
    have F_a1_coder_5 : Fld Z h5 a1 "java/lang/String" "coder" "B" (.int (0 : Int32)) := F_a1_coder_3.same W5
    show Goes p e below s _ _ _ T5 (mkF m 51 #[.val (.ref a1), .val (.ref a2), .val (.int (0 : Int32)), .val (.int (Int32.ofNat 1)), .val .null, .val (.ref o3)] [])
    refine Goes.step (fun _ k => XS.aloadN X5.here hx rfl (hb hby d2_51) rfl rfl k) ?_
    refine Goes.step (fun _ k => XS.aload X5.here hx rfl (hb hby d2_52) rfl rfl k) ?_
    show Goes p e below s _ _ _ T5 (mkF m 54 #[.val (.ref a1), .val (.ref a2), .val (.int (0 : Int32)), .val (.int (Int32.ofNat 1)), .val .null, .val (.ref o3)] [(.ref o3), (.ref a1)])
    obtain ⟨T6, h6, X6, e6, W6, st6⟩ := putF X5 hx hZ hown (host := "") (Or.inl (hw _ (List.mem_of_getElem? (i := 30) rfl))) Via.refl e5 F_a1_value_5 E_a1_5 (Or.inr ⟨(hw _ (List.mem_of_getElem? (i := 31) rfl)), rfl, hnm⟩) (hw _ (List.mem_of_getElem? (i := 3) rfl)) (ty := (.array .byte)) (by decide) rfl rfl (g := (mkF m 54 #[.val (.ref a1), .val (.ref a2), .val (.int (0 : Int32)), .val (.int (Int32.ofNat 1)), .val .null, .val (.ref o3)] [(.ref o3), (.ref a1)])) rfl rfl (hb hby d2_54)
    refine Goes.step st6 ?_
    have E_a1_6 := E_a1_5.wr W6
    have F_a1_coder_6 := F_a1_coder_5.other W6 (Or.inr (slot_ne (Or.inr (hw _ (List.mem_of_getElem? (i := 29) rfl))) (Or.inr (hw _ (List.mem_of_getElem? (i := 31) rfl))) (by decide) (t := .byte) (t' := (.array .byte)) (by decide) (by decide)))
    have A_a2_6 := A_a2_5.other W6 ne_a2_a1
    have hAl_6 := hAl_5.other W6 ne_o3_a1
    have z_6 : n0 ≤ h6.size := by rw [W6.size]; exact z_5
    have K_6 : Keep h0 h6 [a1] := K_5.wr W6 (Or.inl (List.mem_of_getElem? (i := 0) rfl))
    have N_6 := Fr.snoc X6 N_5 ge_a1
    have F_a1_value_6 : Fld Z h6 a1 "java/lang/String" "value" "[B" (.ref o3) := F_a1_value_5.same W6
    show Goes p e below s _ _ _ T6 (mkF m 57 #[.val (.ref a1), .val (.ref a2), .val (.int (0 : Int32)), .val (.int (Int32.ofNat 1)), .val .null, .val (.ref o3)] [])
    exact Goes.outV X6 hx hlk Bd.returns (hb hby d2_57) (by rw [e6]; exact ⟨rfl, N_6, K_6, ⟨E_a1_6, o3, F_a1_value_6, Or.inl ⟨F_a1_coder_6, hAl_6, fun j hj => own_lat (rg j hj).1 (hall j hj)⟩⟩⟩) (by decide) (by decide)
  · have hA0 := hAu
    refine Goes.step (fun _ k => XS.astore X3.here hx rfl (hb hby d2_39) rfl rfl (l' := #[.val (.ref a1), .val (.ref a2), .val (.int (0 : Int32)), .val (.int (Int32.ofNat 1)), .val .null, .val (.ref o3)]) rfl k) ?_
    refine Goes.step (fun _ k => XS.aloadN X3.here hx rfl (hb hby d2_41) rfl rfl k) ?_
    show Goes p e below s _ _ _ T3 (mkF m 42 #[.val (.ref a1), .val (.ref a2), .val (.int (0 : Int32)), .val (.int (Int32.ofNat 1)), .val .null, .val (.ref o3)] [(.ref a1)])
    refine Goes.step (fun _ k => XS.aload X3.here hx rfl (hb hby d2_42) rfl rfl k) ?_
    refine Goes.step (fun _ k => XS.iloadN X3.here hx rfl (hb hby d2_44) rfl k) ?_
    show Goes p e below s _ _ _ T3 (mkF m 45 #[.val (.ref a1), .val (.ref a2), .val (.int (0 : Int32)), .val (.int (Int32.ofNat 1)), .val .null, .val (.ref o3)] [(.int (Int32.ofNat 1)), (.ref o3), (.ref a1)])
    obtain ⟨T7, X7, e7, st7⟩ := own_pure (r := some (.int (1 : Int32))) (fun _ _ _ q => q) (callX X3 hx hZ (y := (⟨"java/lang/StringUTF16", "coderFromArrayLen", "([BI)B"⟩ : MethodName)) hown (hw _ (List.mem_of_getElem? (i := 25) rfl)) (hw _ (List.mem_of_getElem? (i := 26) rfl)) (hw _ (List.mem_of_getElem? (i := 19) rfl)) (hw _ (List.mem_of_getElem? (i := 27) rfl)) (by decide) (W := 1) (argsL := [(.ref o3), (.int (Int32.ofNat 1))]) (rest := [(.ref a1)]) (rm6 l Z a0 hw [] o3 (Int32.ofNat 1) (2 * 1) (own_u f) (1 : Int32) h3 n0 z_3 hAu (by decide)) (by decide) (by decide) (by decide) (by decide) e3 (g := (mkF m 45 #[.val (.ref a1), .val (.ref a2), .val (.int (0 : Int32)), .val (.int (Int32.ofNat 1)), .val .null, .val (.ref o3)] [(.int (Int32.ofNat 1)), (.ref o3), (.ref a1)])) rfl (by rw [hml]; rfl) (lenOf pd_2n1_1 rfl) rfl (by show 2 * 0 + _ ≤ _; exact Nat.le_of_eq rfl) (hb hby d2_45))
    refine Goes.step st7 ?_
    show Goes p e below s _ _ _ T7 (mkF m 48 #[.val (.ref a1), .val (.ref a2), .val (.int (0 : Int32)), .val (.int (Int32.ofNat 1)), .val .null, .val (.ref o3)] [(.int (1 : Int32)), (.ref a1)])
    obtain ⟨T8, h8, X8, e8, W8, st8⟩ := putF X7 hx hZ hown (host := "") (Or.inl (hw _ (List.mem_of_getElem? (i := 28) rfl))) Via.refl e7 F_a1_coder_3 E_a1_3 (Or.inr ⟨(hw _ (List.mem_of_getElem? (i := 29) rfl)), rfl, hnm⟩) (hw _ (List.mem_of_getElem? (i := 3) rfl)) (ty := .byte) (by decide) rfl rfl (g := (mkF m 48 #[.val (.ref a1), .val (.ref a2), .val (.int (0 : Int32)), .val (.int (Int32.ofNat 1)), .val .null, .val (.ref o3)] [(.int (1 : Int32)), (.ref a1)])) rfl rfl (hb hby d2_48)
    refine Goes.step st8 ?_
    have E_a1_8 := E_a1_3.wr W8
    have F_a1_value_8 := F_a1_value_3.other W8 (Or.inr (slot_ne (Or.inr (hw _ (List.mem_of_getElem? (i := 31) rfl))) (Or.inr (hw _ (List.mem_of_getElem? (i := 29) rfl))) (by decide) (t := (.array .byte)) (t' := .byte) (by decide) (by decide)))
    have A_a2_8 := A_a2_3.other W8 ne_a2_a1
    have hAu_8 := hAu.other W8 ne_o3_a1
    have z_8 : n0 ≤ h8.size := by rw [W8.size]; exact z_3
    have K_8 : Keep h0 h8 [a1] := K_3.wr W8 (Or.inl (List.mem_of_getElem? (i := 0) rfl))
    have N_8 := Fr.snoc X8 N_3 ge_a1
    have F_a1_coder_8 : Fld Z h8 a1 "java/lang/String" "coder" "B" (.int (1 : Int32)) := F_a1_coder_3.same W8
    show Goes p e below s _ _ _ T8 (mkF m 51 #[.val (.ref a1), .val (.ref a2), .val (.int (0 : Int32)), .val (.int (Int32.ofNat 1)), .val .null, .val (.ref o3)] [])
    refine Goes.step (fun _ k => XS.aloadN X8.here hx rfl (hb hby d2_51) rfl rfl k) ?_
    refine Goes.step (fun _ k => XS.aload X8.here hx rfl (hb hby d2_52) rfl rfl k) ?_
    show Goes p e below s _ _ _ T8 (mkF m 54 #[.val (.ref a1), .val (.ref a2), .val (.int (0 : Int32)), .val (.int (Int32.ofNat 1)), .val .null, .val (.ref o3)] [(.ref o3), (.ref a1)])
    obtain ⟨T9, h9, X9, e9, W9, st9⟩ := putF X8 hx hZ hown (host := "") (Or.inl (hw _ (List.mem_of_getElem? (i := 30) rfl))) Via.refl e8 F_a1_value_8 E_a1_8 (Or.inr ⟨(hw _ (List.mem_of_getElem? (i := 31) rfl)), rfl, hnm⟩) (hw _ (List.mem_of_getElem? (i := 3) rfl)) (ty := (.array .byte)) (by decide) rfl rfl (g := (mkF m 54 #[.val (.ref a1), .val (.ref a2), .val (.int (0 : Int32)), .val (.int (Int32.ofNat 1)), .val .null, .val (.ref o3)] [(.ref o3), (.ref a1)])) rfl rfl (hb hby d2_54)
    refine Goes.step st9 ?_
    have E_a1_9 := E_a1_8.wr W9
    have F_a1_coder_9 := F_a1_coder_8.other W9 (Or.inr (slot_ne (Or.inr (hw _ (List.mem_of_getElem? (i := 29) rfl))) (Or.inr (hw _ (List.mem_of_getElem? (i := 31) rfl))) (by decide) (t := .byte) (t' := (.array .byte)) (by decide) (by decide)))
    have A_a2_9 := A_a2_8.other W9 ne_a2_a1
    have hAu_9 := hAu_8.other W9 ne_o3_a1
    have z_9 : n0 ≤ h9.size := by rw [W9.size]; exact z_8
    have K_9 : Keep h0 h9 [a1] := K_8.wr W9 (Or.inl (List.mem_of_getElem? (i := 0) rfl))
    have N_9 := Fr.snoc X9 N_8 ge_a1
    have F_a1_value_9 : Fld Z h9 a1 "java/lang/String" "value" "[B" (.ref o3) := F_a1_value_8.same W9
    show Goes p e below s _ _ _ T9 (mkF m 57 #[.val (.ref a1), .val (.ref a2), .val (.int (0 : Int32)), .val (.int (Int32.ofNat 1)), .val .null, .val (.ref o3)] [])
    exact Goes.outV X9 hx hlk Bd.returns (hb hby d2_57) (by rw [e9]; exact ⟨rfl, N_9, K_9, ⟨E_a1_9, o3, F_a1_value_9, Or.inr ⟨F_a1_coder_9, hAu_9, fun j hj => own_g3u rg hj⟩⟩⟩) (by decide) (by decide)
theorem pd_1n1_0 : parseMethodDescriptor "([CIILjava/lang/Void;)V" = some ⟨[(.array .char), .int, .int, (.object "java/lang/Void")], none⟩ := by decide +kernel
theorem ef_1n1 (m : MethodId) (a1 : Addr) (a2 : Addr) : entryFrame m #[(.ref a1), (.ref a2)] 2 = mkF m 0 #[.val (.ref a1), .val (.ref a2)] [] := by first | (simp [entryFrame, mkF, argsToLocals, Value.category]; done) | rfl
def Q1n1 (Z : State) (a1 : Addr) (a2 : Addr) (G1 : Int32) (f : Nat → Int32) (h0 : Heap) (n0 : Nat) (v : Option Value) (h : Heap) (L : List Loc) : Prop := v = none ∧ Fr n0 L ∧ Keep h0 h [a1] ∧ Str Z h a1 1 f
set_option maxRecDepth 65536 in
set_option maxHeartbeats 40000000 in
theorem rm1n1 (l : Launch) (Z : State) (a0 : Array Value) (hw : ∀ d ∈ tables_1, d.before a0 Z = true) (ws : List Jvm.Cond) (a1 : Addr) (a2 : Addr) (G1 : Int32) (f : Nat → Int32) (h0 : Heap) (n0 : Nat) (Z0 : n0 ≤ h0.size) (O2 : Sta Z Z.heap "java/lang/String" "COMPACT_STRINGS" "Z" (.int G1)) (P3 : ¬ (G1 = (0 : Int32))) (OL : Old Z n0 h0) (O5 : Sta Z Z.heap "java/lang/StringUTF16" "$assertionsDisabled" "Z" (.int (1 : Int32))) (O6 : Sta Z Z.heap "java/lang/StringUTF16" "HI_BYTE_SHIFT" "I" (.int (0 : Int32))) (O7 : Sta Z Z.heap "java/lang/StringUTF16" "LO_BYTE_SHIFT" "I" (.int (8 : Int32))) (E_a1_0 : Exa Z h0 a1 "java/lang/String") (F_a1_value_0 : Fld Z h0 a1 "java/lang/String" "value" "[B" .null) (F_a1_coder_0 : Fld Z h0 a1 "java/lang/String" "coder" "B" (.int (0 : Int32))) (ge_a1 : n0 ≤ a1) (A_a2_0 : Ari Z h0 a2 .char 1 f) (rg : own_rg 1 f) (ne_a2_a1 : a2 ≠ a1) :
    MetFree l (⟨"java/lang/String", "<init>", "([C)V"⟩ : MethodName) (head1 (Jvm.Cond.code (⟨"java/lang/String", "<init>", "([C)V"⟩ : MethodName) jdk_42_method_3_code 2 none :: ws) ({ frames := 5, cells := 2, slots := 9, locals := 74 } : Room)) (fun a U => a = #[(.ref a1), (.ref a2)] ∧ Z.Warmed39 U.vm ∧ U.heap = h0) (fun _ _ _ _ _ => True) (fun _ U o U' => ∃ v L, o = .returned v ∧ Q1n1 Z a1 a2 G1 f h0 n0 v U'.heap L ∧ FrameEnd U o U' L ({ frames := 5, cells := 2, slots := 9, locals := 74 } : Room).cells ({ frames := 5, cells := 2, slots := 9, locals := 74 } : Room).slots) := by
  refine MetFree.of_bodySF (plainFor_of_name pn_1) hisR ?_
  intro p e s m args below meth c s₁ Bd hml0 hP hK
  obtain ⟨rfl, hZ, hh⟩ := hP
  have hx := Bd.exec
  have hby := Bd.bytes
  have hlk := Bd.notSynchronized
  have hml : c.maxLocals = 2 := hml0
  have hown : s.vm.findClass "java/lang/String" = some m.cls := findClass_of_methodNamed Bd.named
  have hnm := (name_of_methodNamed Bd.named Bd.method).1
  have X0 : Stand p l e ({ frames := 5, cells := 2, slots := 9, locals := 74 } : Room) s m #[(.ref a1), (.ref a2)] below meth c s₁ [] 0 0 := Stand.of_body Bd
  have e0 : s₁.heap = h0 := by rw [← hh, Bd.state]; rfl
  have N0 := Fr.nil n0
  have K0 : Keep h0 h0 [a1] := Keep.refl h0 _
  show Goes p e below s ({ frames := 5, cells := 2, slots := 9, locals := 74 } : Room).cells ({ frames := 5, cells := 2, slots := 9, locals := 74 } : Room).slots (Q1n1 Z a1 a2 G1 f h0 n0) s₁ (entryFrame m #[(.ref a1), (.ref a2)] 2)
  refine Goes.step (fun t k => castTop (ef_1n1 m a1 a2) k) ?_
  refine Goes.step (fun _ k => XS.aloadN X0.here hx rfl (hb hby d1_0) rfl rfl k) ?_
  refine Goes.step (fun _ k => XS.aloadN X0.here hx rfl (hb hby d1_1) rfl rfl k) ?_
  show Goes p e below s _ _ _ s₁ (mkF m 2 #[.val (.ref a1), .val (.ref a2)] [(.ref a2), (.ref a1)])
  refine Goes.step (fun _ k => XS.iconst X0.here hx rfl (hb hby d1_2) k) ?_
  refine Goes.step (fun _ k => XS.aloadN X0.here hx rfl (hb hby d1_3) rfl rfl k) ?_
  show Goes p e below s _ _ _ s₁ (mkF m 4 #[.val (.ref a1), .val (.ref a2)] [(.ref a2), (.int (0 : Int32)), (.ref a2), (.ref a1)])
  refine Goes.step (fun _ k => rdL X0 hx hZ e0 A_a2_0 (g := (mkF m 4 #[.val (.ref a1), .val (.ref a2)] [(.ref a2), (.int (0 : Int32)), (.ref a2), (.ref a1)])) rfl rfl (hb hby d1_4) _ k) ?_
  show Goes p e below s _ _ _ s₁ (mkF m 5 #[.val (.ref a1), .val (.ref a2)] [(.int (Int32.ofNat 1)), (.int (0 : Int32)), (.ref a2), (.ref a1)])
  refine Goes.step (fun _ k => XS.aconstNull X0.here hx rfl (hb hby d1_5) k) ?_
  obtain ⟨v1, T1, h1, L1, X1, e1, Q1, st1⟩ := callXI X0 hx hZ (b := a1) (y := (⟨"java/lang/String", "<init>", "([CIILjava/lang/Void;)V"⟩ : MethodName)) hown rfl (hw _ (List.mem_of_getElem? (i := 9) rfl)) (hw _ (List.mem_of_getElem? (i := 10) rfl)) (hw _ (List.mem_of_getElem? (i := 12) rfl)) (hw _ (List.mem_of_getElem? (i := 4) rfl)) (by decide) (W := 0) (argsL := [(.ref a2), (.int (0 : Int32)), (.int (Int32.ofNat 1)), .null]) (rest := []) (rm2n1 l Z a0 hw [] a1 a2 G1 f h0 n0 Z0 O2 P3 (OL.keep K0 (allS ge_a1 all0)) O5 O6 O7 E_a1_0 F_a1_value_0 F_a1_coder_0 ge_a1 A_a2_0 rg ne_a2_a1) (by decide) (by decide) (by decide) (by decide) e0 (g := (mkF m 6 #[.val (.ref a1), .val (.ref a2)] [.null, (.int (Int32.ofNat 1)), (.int (0 : Int32)), (.ref a2), (.ref a1)])) rfl (by rw [hml]; rfl) (lenOf pd_1n1_0 rfl) rfl (by show 2 * 0 + _ ≤ _; exact Nat.le_of_eq rfl) (hb hby d1_6)
  obtain ⟨rfl, NQ1, KQ1, hT1⟩ := Q1
  refine Goes.step st1 ?_
  have E_a1_1 := E_a1_0.keep KQ1
  have A_a2_1 := A_a2_0.keep KQ1 (ninS ne_a2_a1 nin0)
  have z_1 : n0 ≤ h1.size := Nat.le_trans Z0 KQ1.1
  have K_1 : Keep h0 h1 [a1] := Keep.trans K0 KQ1 (allS (Or.inl (List.mem_of_getElem? (i := 0) rfl)) all0)
  have N_1 := Fr.app N0 NQ1
  show Goes p e below s _ _ _ T1 (mkF m 9 #[.val (.ref a1), .val (.ref a2)] [])
  exact Goes.outV X1 hx hlk Bd.returns (hb hby d1_9) (by rw [e1]; exact ⟨rfl, N_1, K_1, hT1⟩) (by decide) (by decide)
theorem pd_2n2_0 : parseMethodDescriptor "([CII)[B" = some ⟨[(.array .char), .int, .int], some (.array .byte)⟩ := by decide +kernel
theorem pd_2n2_1 : parseMethodDescriptor "([BI)B" = some ⟨[(.array .byte), .int], some .byte⟩ := by decide +kernel
theorem ef_2n2 (m : MethodId) (a1 : Addr) (a2 : Addr) : entryFrame m #[(.ref a1), (.ref a2), (.int (0 : Int32)), (.int (Int32.ofNat 2)), .null] 6 = mkF m 0 #[.val (.ref a1), .val (.ref a2), .val (.int (0 : Int32)), .val (.int (Int32.ofNat 2)), .val .null, .unset] [] := by first | (simp [entryFrame, mkF, argsToLocals, Value.category]; done) | rfl
def Q2n2 (Z : State) (a1 : Addr) (a2 : Addr) (G1 : Int32) (f : Nat → Int32) (h0 : Heap) (n0 : Nat) (v : Option Value) (h : Heap) (L : List Loc) : Prop := v = none ∧ Fr n0 L ∧ Keep h0 h [a1] ∧ Str Z h a1 2 f
set_option maxRecDepth 65536 in
set_option maxHeartbeats 40000000 in
theorem rm2n2 (l : Launch) (Z : State) (a0 : Array Value) (hw : ∀ d ∈ tables_1, d.before a0 Z = true) (ws : List Jvm.Cond) (a1 : Addr) (a2 : Addr) (G1 : Int32) (f : Nat → Int32) (h0 : Heap) (n0 : Nat) (Z0 : n0 ≤ h0.size) (O2 : Sta Z Z.heap "java/lang/String" "COMPACT_STRINGS" "Z" (.int G1)) (P3 : ¬ (G1 = (0 : Int32))) (OL : Old Z n0 h0) (O5 : Sta Z Z.heap "java/lang/StringUTF16" "$assertionsDisabled" "Z" (.int (1 : Int32))) (O6 : Sta Z Z.heap "java/lang/StringUTF16" "HI_BYTE_SHIFT" "I" (.int (0 : Int32))) (O7 : Sta Z Z.heap "java/lang/StringUTF16" "LO_BYTE_SHIFT" "I" (.int (8 : Int32))) (E_a1_0 : Exa Z h0 a1 "java/lang/String") (F_a1_value_0 : Fld Z h0 a1 "java/lang/String" "value" "[B" .null) (F_a1_coder_0 : Fld Z h0 a1 "java/lang/String" "coder" "B" (.int (0 : Int32))) (ge_a1 : n0 ≤ a1) (A_a2_0 : Ari Z h0 a2 .char 2 f) (rg : own_rg 2 f) (ne_a2_a1 : a2 ≠ a1) :
    MetFree l (⟨"java/lang/String", "<init>", "([CIILjava/lang/Void;)V"⟩ : MethodName) (head1 (Jvm.Cond.code (⟨"java/lang/String", "<init>", "([CIILjava/lang/Void;)V"⟩ : MethodName) jdk_42_method_149_code 6 none :: ws) ({ frames := 4, cells := 2, slots := 10, locals := 57 } : Room)) (fun a U => a = #[(.ref a1), (.ref a2), (.int (0 : Int32)), (.int (Int32.ofNat 2)), .null] ∧ Z.Warmed39 U.vm ∧ U.heap = h0) (fun _ _ _ _ _ => True) (fun _ U o U' => ∃ v L, o = .returned v ∧ Q2n2 Z a1 a2 G1 f h0 n0 v U'.heap L ∧ FrameEnd U o U' L ({ frames := 4, cells := 2, slots := 10, locals := 57 } : Room).cells ({ frames := 4, cells := 2, slots := 10, locals := 57 } : Room).slots) := by
  refine MetFree.of_bodySF (plainFor_of_name pn_2) hisR ?_
  intro p e s m args below meth c s₁ Bd hml0 hP hK
  obtain ⟨rfl, hZ, hh⟩ := hP
  have hx := Bd.exec
  have hby := Bd.bytes
  have hlk := Bd.notSynchronized
  have hml : c.maxLocals = 6 := hml0
  have hown : s.vm.findClass "java/lang/String" = some m.cls := findClass_of_methodNamed Bd.named
  have hnm := (name_of_methodNamed Bd.named Bd.method).1
  have X0 : Stand p l e ({ frames := 4, cells := 2, slots := 10, locals := 57 } : Room) s m #[(.ref a1), (.ref a2), (.int (0 : Int32)), (.int (Int32.ofNat 2)), .null] below meth c s₁ [] 0 0 := Stand.of_body Bd
  have e0 : s₁.heap = h0 := by rw [← hh, Bd.state]; rfl
  have N0 := Fr.nil n0
  have K0 : Keep h0 h0 [a1] := Keep.refl h0 _
  show Goes p e below s ({ frames := 4, cells := 2, slots := 10, locals := 57 } : Room).cells ({ frames := 4, cells := 2, slots := 10, locals := 57 } : Room).slots (Q2n2 Z a1 a2 G1 f h0 n0) s₁ (entryFrame m #[(.ref a1), (.ref a2), (.int (0 : Int32)), (.int (Int32.ofNat 2)), .null] 6)
  refine Goes.step (fun t k => castTop (ef_2n2 m a1 a2) k) ?_
  refine Goes.step (fun _ k => XS.aloadN X0.here hx rfl (hb hby d2_0) rfl rfl k) ?_
  obtain ⟨T1, X1, e1, st1⟩ := initO X0 hx hZ hown (hw _ (List.mem_of_getElem? (i := 13) rfl)) (hw _ (List.mem_of_getElem? (i := 14) rfl)) (hw _ (List.mem_of_getElem? (i := 15) rfl)) e0 (g := (mkF m 1 #[.val (.ref a1), .val (.ref a2), .val (.int (0 : Int32)), .val (.int (Int32.ofNat 2)), .val .null, .unset] [(.ref a1)])) rfl (by rw [hml]; rfl) rfl (hb hby d2_1) (by decide) (W := 0) (by show 2 * 0 + _ ≤ _; exact Nat.le_of_eq rfl) (by decide)
  refine Goes.step st1 ?_
  show Goes p e below s _ _ _ T1 (mkF m 4 #[.val (.ref a1), .val (.ref a2), .val (.int (0 : Int32)), .val (.int (Int32.ofNat 2)), .val .null, .unset] [])
  refine Goes.step (fun _ k => XS.iloadN X1.here hx rfl (hb hby d2_4) rfl k) ?_
  refine Goes.step (fun _ k => XS.ifYes X1.here hx rfl (pc0 := 5) (pc' := 27) rfl (hb hby d2_5) rfl ((if0 _ _).trans (feq (by decide : ¬ ((Int32.ofNat 2) = (0 : Int32)))).2) (by decide) (by decide) k) ?_
  show Goes p e below s _ _ _ T1 (mkF m 27 #[.val (.ref a1), .val (.ref a2), .val (.int (0 : Int32)), .val (.int (Int32.ofNat 2)), .val .null, .unset] [])
  obtain ⟨T2, X2, e2, st2⟩ := getS2 X1 hx hZ hown (host := "") (Or.inl (hw _ (List.mem_of_getElem? (i := 16) rfl))) Via.refl e1 (O2.ext (OL.keep K0 (allS ge_a1 all0)).2) (g := (mkF m 27 #[.val (.ref a1), .val (.ref a2), .val (.int (0 : Int32)), .val (.int (Int32.ofNat 2)), .val .null, .unset] [])) rfl (hb hby d2_27)
  refine Goes.step st2 ?_
  show Goes p e below s _ _ _ T2 (mkF m 30 #[.val (.ref a1), .val (.ref a2), .val (.int (0 : Int32)), .val (.int (Int32.ofNat 2)), .val .null, .unset] [(.int G1)])
  refine Goes.step (fun _ k => XS.ifNo X2.here hx rfl (hb hby d2_30) rfl ((if0 _ _).trans (feq P3).1) k) ?_
  show Goes p e below s _ _ _ T2 (mkF m 33 #[.val (.ref a1), .val (.ref a2), .val (.int (0 : Int32)), .val (.int (Int32.ofNat 2)), .val .null, .unset] [])
  refine Goes.step (fun _ k => XS.aloadN X2.here hx rfl (hb hby d2_33) rfl rfl k) ?_
  refine Goes.step (fun _ k => XS.iloadN X2.here hx rfl (hb hby d2_34) rfl k) ?_
  show Goes p e below s _ _ _ T2 (mkF m 35 #[.val (.ref a1), .val (.ref a2), .val (.int (0 : Int32)), .val (.int (Int32.ofNat 2)), .val .null, .unset] [(.int (0 : Int32)), (.ref a2)])
  refine Goes.step (fun _ k => XS.iloadN X2.here hx rfl (hb hby d2_35) rfl k) ?_
  obtain ⟨v3, T3, h3, L3, X3, e3, Q3, st3⟩ := callX X2 hx hZ (y := (⟨"java/lang/StringUTF16", "compress", "([CII)[B"⟩ : MethodName)) hown (hw _ (List.mem_of_getElem? (i := 17) rfl)) (hw _ (List.mem_of_getElem? (i := 18) rfl)) (hw _ (List.mem_of_getElem? (i := 19) rfl)) (hw _ (List.mem_of_getElem? (i := 20) rfl)) (by decide) (W := 0) (argsL := [(.ref a2), (.int (0 : Int32)), (.int (Int32.ofNat 2))]) (rest := []) (rm4n2 l Z a0 hw [] a2 f h0 n0 Z0 (OL.keep K0 (allS ge_a1 all0)) O5 O6 O7 A_a2_0 rg) (by decide) (by decide) (by decide) (by decide) e2 (g := (mkF m 36 #[.val (.ref a1), .val (.ref a2), .val (.int (0 : Int32)), .val (.int (Int32.ofNat 2)), .val .null, .unset] [(.int (Int32.ofNat 2)), (.int (0 : Int32)), (.ref a2)])) rfl (by rw [hml]; rfl) (lenOf pd_2n2_0 rfl) rfl (by show 2 * 0 + _ ≤ _; exact Nat.le_of_eq rfl) (hb hby d2_36)
  obtain ⟨o3, rfl, NQ3, KQ3, so3, hD3⟩ := Q3
  refine Goes.step st3 ?_
  have E_a1_3 := E_a1_0.keep KQ3
  have F_a1_value_3 := F_a1_value_0.keep KQ3 nin0
  have F_a1_coder_3 := F_a1_coder_0.keep KQ3 nin0
  have A_a2_3 := A_a2_0.keep KQ3 nin0
  have z_3 : n0 ≤ h3.size := Nat.le_trans Z0 KQ3.1
  have K_3 : Keep h0 h3 [a1] := Keep.trans K0 KQ3 all0
  have N_3 := Fr.app N0 NQ3
  have ne_o3_a1 : o3 ≠ a1 := Nat.ne_of_gt (Nat.lt_of_lt_of_le E_a1_0.lt so3)
  have ne_o3_a2 : o3 ≠ a2 := Nat.ne_of_gt (Nat.lt_of_lt_of_le A_a2_0.lt so3)
  have ge_o3 : n0 ≤ o3 := Nat.le_trans Z0 so3
  have sz_o3 : h0.size ≤ o3 := Nat.le_trans K0.1 so3
  show Goes p e below s _ _ _ T3 (mkF m 39 #[.val (.ref a1), .val (.ref a2), .val (.int (0 : Int32)), .val (.int (Int32.ofNat 2)), .val .null, .unset] [(.ref o3)])
  rcases hD3 with ⟨hAl, hall⟩ | hAu
  · have hA0 := hAl
    refine Goes.step (fun _ k => XS.astore X3.here hx rfl (hb hby d2_39) rfl rfl (l' := #[.val (.ref a1), .val (.ref a2), .val (.int (0 : Int32)), .val (.int (Int32.ofNat 2)), .val .null, .val (.ref o3)]) rfl k) ?_
    refine Goes.step (fun _ k => XS.aloadN X3.here hx rfl (hb hby d2_41) rfl rfl k) ?_
    show Goes p e below s _ _ _ T3 (mkF m 42 #[.val (.ref a1), .val (.ref a2), .val (.int (0 : Int32)), .val (.int (Int32.ofNat 2)), .val .null, .val (.ref o3)] [(.ref a1)])
    refine Goes.step (fun _ k => XS.aload X3.here hx rfl (hb hby d2_42) rfl rfl k) ?_
    refine Goes.step (fun _ k => XS.iloadN X3.here hx rfl (hb hby d2_44) rfl k) ?_
    show Goes p e below s _ _ _ T3 (mkF m 45 #[.val (.ref a1), .val (.ref a2), .val (.int (0 : Int32)), .val (.int (Int32.ofNat 2)), .val .null, .val (.ref o3)] [(.int (Int32.ofNat 2)), (.ref o3), (.ref a1)])
    obtain ⟨T4, X4, e4, st4⟩ := own_pure (r := some (.int (0 : Int32))) (fun _ _ _ q => q) (callX X3 hx hZ (y := (⟨"java/lang/StringUTF16", "coderFromArrayLen", "([BI)B"⟩ : MethodName)) hown (hw _ (List.mem_of_getElem? (i := 25) rfl)) (hw _ (List.mem_of_getElem? (i := 26) rfl)) (hw _ (List.mem_of_getElem? (i := 19) rfl)) (hw _ (List.mem_of_getElem? (i := 27) rfl)) (by decide) (W := 1) (argsL := [(.ref o3), (.int (Int32.ofNat 2))]) (rest := [(.ref a1)]) (rm6 l Z a0 hw [] o3 (Int32.ofNat 2) (2) (fun j => own_bb (f j)) (0 : Int32) h3 n0 z_3 hAl (by decide)) (by decide) (by decide) (by decide) (by decide) e3 (g := (mkF m 45 #[.val (.ref a1), .val (.ref a2), .val (.int (0 : Int32)), .val (.int (Int32.ofNat 2)), .val .null, .val (.ref o3)] [(.int (Int32.ofNat 2)), (.ref o3), (.ref a1)])) rfl (by rw [hml]; rfl) (lenOf pd_2n2_1 rfl) rfl (by show 2 * 0 + _ ≤ _; exact Nat.le_of_eq rfl) (hb hby d2_45))
    refine Goes.step st4 ?_
    show Goes p e below s _ _ _ T4 (mkF m 48 #[.val (.ref a1), .val (.ref a2), .val (.int (0 : Int32)), .val (.int (Int32.ofNat 2)), .val .null, .val (.ref o3)] [(.int (0 : Int32)), (.ref a1)])
    obtain ⟨T5, h5, X5, e5, W5, st5⟩ := putF X4 hx hZ hown (host := "") (Or.inl (hw _ (List.mem_of_getElem? (i := 28) rfl))) Via.refl e4 F_a1_coder_3 E_a1_3 (Or.inr ⟨(hw _ (List.mem_of_getElem? (i := 29) rfl)), rfl, hnm⟩) (hw _ (List.mem_of_getElem? (i := 3) rfl)) (ty := .byte) (by decide) rfl rfl (g := (mkF m 48 #[.val (.ref a1), .val (.ref a2), .val (.int (0 : Int32)), .val (.int (Int32.ofNat 2)), .val .null, .val (.ref o3)] [(.int (0 : Int32)), (.ref a1)])) rfl rfl (hb hby d2_48)
    refine Goes.step st5 ?_
    have E_a1_5 := E_a1_3.wr W5
    have F_a1_value_5 := F_a1_value_3.other W5 (Or.inr (slot_ne (Or.inr (hw _ (List.mem_of_getElem? (i := 31) rfl))) (Or.inr (hw _ (List.mem_of_getElem? (i := 29) rfl))) (by decide) (t := (.array .byte)) (t' := .byte) (by decide) (by decide)))
    have A_a2_5 := A_a2_3.other W5 ne_a2_a1
    have hAl_5 := hAl.other W5 ne_o3_a1
    have z_5 : n0 ≤ h5.size := by rw [W5.size]; exact z_3
    have K_5 : Keep h0 h5 [a1] := K_3.wr W5 (Or.inl (List.mem_of_getElem? (i := 0) rfl))
    have N_5 := Fr.snoc X5 N_3 ge_a1
    have F_a1_coder_5 : Fld Z h5 a1 "java/lang/String" "coder" "B" (.int (0 : Int32)) := F_a1_coder_3.same W5
    show Goes p e below s _ _ _ T5 (mkF m 51 #[.val (.ref a1), .val (.ref a2), .val (.int (0 : Int32)), .val (.int (Int32.ofNat 2)), .val .null, .val (.ref o3)] [])
    refine Goes.step (fun _ k => XS.aloadN X5.here hx rfl (hb hby d2_51) rfl rfl k) ?_
    refine Goes.step (fun _ k => XS.aload X5.here hx rfl (hb hby d2_52) rfl rfl k) ?_
    show Goes p e below s _ _ _ T5 (mkF m 54 #[.val (.ref a1), .val (.ref a2), .val (.int (0 : Int32)), .val (.int (Int32.ofNat 2)), .val .null, .val (.ref o3)] [(.ref o3), (.ref a1)])
    obtain ⟨T6, h6, X6, e6, W6, st6⟩ := putF X5 hx hZ hown (host := "") (Or.inl (hw _ (List.mem_of_getElem? (i := 30) rfl))) Via.refl e5 F_a1_value_5 E_a1_5 (Or.inr ⟨(hw _ (List.mem_of_getElem? (i := 31) rfl)), rfl, hnm⟩) (hw _ (List.mem_of_getElem? (i := 3) rfl)) (ty := (.array .byte)) (by decide) rfl rfl (g := (mkF m 54 #[.val (.ref a1), .val (.ref a2), .val (.int (0 : Int32)), .val (.int (Int32.ofNat 2)), .val .null, .val (.ref o3)] [(.ref o3), (.ref a1)])) rfl rfl (hb hby d2_54)
    refine Goes.step st6 ?_
    have E_a1_6 := E_a1_5.wr W6
    have F_a1_coder_6 := F_a1_coder_5.other W6 (Or.inr (slot_ne (Or.inr (hw _ (List.mem_of_getElem? (i := 29) rfl))) (Or.inr (hw _ (List.mem_of_getElem? (i := 31) rfl))) (by decide) (t := .byte) (t' := (.array .byte)) (by decide) (by decide)))
    have A_a2_6 := A_a2_5.other W6 ne_a2_a1
    have hAl_6 := hAl_5.other W6 ne_o3_a1
    have z_6 : n0 ≤ h6.size := by rw [W6.size]; exact z_5
    have K_6 : Keep h0 h6 [a1] := K_5.wr W6 (Or.inl (List.mem_of_getElem? (i := 0) rfl))
    have N_6 := Fr.snoc X6 N_5 ge_a1
    have F_a1_value_6 : Fld Z h6 a1 "java/lang/String" "value" "[B" (.ref o3) := F_a1_value_5.same W6
    show Goes p e below s _ _ _ T6 (mkF m 57 #[.val (.ref a1), .val (.ref a2), .val (.int (0 : Int32)), .val (.int (Int32.ofNat 2)), .val .null, .val (.ref o3)] [])
    exact Goes.outV X6 hx hlk Bd.returns (hb hby d2_57) (by rw [e6]; exact ⟨rfl, N_6, K_6, ⟨E_a1_6, o3, F_a1_value_6, Or.inl ⟨F_a1_coder_6, hAl_6, fun j hj => own_lat (rg j hj).1 (hall j hj)⟩⟩⟩) (by decide) (by decide)
  · have hA0 := hAu
    refine Goes.step (fun _ k => XS.astore X3.here hx rfl (hb hby d2_39) rfl rfl (l' := #[.val (.ref a1), .val (.ref a2), .val (.int (0 : Int32)), .val (.int (Int32.ofNat 2)), .val .null, .val (.ref o3)]) rfl k) ?_
    refine Goes.step (fun _ k => XS.aloadN X3.here hx rfl (hb hby d2_41) rfl rfl k) ?_
    show Goes p e below s _ _ _ T3 (mkF m 42 #[.val (.ref a1), .val (.ref a2), .val (.int (0 : Int32)), .val (.int (Int32.ofNat 2)), .val .null, .val (.ref o3)] [(.ref a1)])
    refine Goes.step (fun _ k => XS.aload X3.here hx rfl (hb hby d2_42) rfl rfl k) ?_
    refine Goes.step (fun _ k => XS.iloadN X3.here hx rfl (hb hby d2_44) rfl k) ?_
    show Goes p e below s _ _ _ T3 (mkF m 45 #[.val (.ref a1), .val (.ref a2), .val (.int (0 : Int32)), .val (.int (Int32.ofNat 2)), .val .null, .val (.ref o3)] [(.int (Int32.ofNat 2)), (.ref o3), (.ref a1)])
    obtain ⟨T7, X7, e7, st7⟩ := own_pure (r := some (.int (1 : Int32))) (fun _ _ _ q => q) (callX X3 hx hZ (y := (⟨"java/lang/StringUTF16", "coderFromArrayLen", "([BI)B"⟩ : MethodName)) hown (hw _ (List.mem_of_getElem? (i := 25) rfl)) (hw _ (List.mem_of_getElem? (i := 26) rfl)) (hw _ (List.mem_of_getElem? (i := 19) rfl)) (hw _ (List.mem_of_getElem? (i := 27) rfl)) (by decide) (W := 1) (argsL := [(.ref o3), (.int (Int32.ofNat 2))]) (rest := [(.ref a1)]) (rm6 l Z a0 hw [] o3 (Int32.ofNat 2) (2 * 2) (own_u f) (1 : Int32) h3 n0 z_3 hAu (by decide)) (by decide) (by decide) (by decide) (by decide) e3 (g := (mkF m 45 #[.val (.ref a1), .val (.ref a2), .val (.int (0 : Int32)), .val (.int (Int32.ofNat 2)), .val .null, .val (.ref o3)] [(.int (Int32.ofNat 2)), (.ref o3), (.ref a1)])) rfl (by rw [hml]; rfl) (lenOf pd_2n2_1 rfl) rfl (by show 2 * 0 + _ ≤ _; exact Nat.le_of_eq rfl) (hb hby d2_45))
    refine Goes.step st7 ?_
    show Goes p e below s _ _ _ T7 (mkF m 48 #[.val (.ref a1), .val (.ref a2), .val (.int (0 : Int32)), .val (.int (Int32.ofNat 2)), .val .null, .val (.ref o3)] [(.int (1 : Int32)), (.ref a1)])
    obtain ⟨T8, h8, X8, e8, W8, st8⟩ := putF X7 hx hZ hown (host := "") (Or.inl (hw _ (List.mem_of_getElem? (i := 28) rfl))) Via.refl e7 F_a1_coder_3 E_a1_3 (Or.inr ⟨(hw _ (List.mem_of_getElem? (i := 29) rfl)), rfl, hnm⟩) (hw _ (List.mem_of_getElem? (i := 3) rfl)) (ty := .byte) (by decide) rfl rfl (g := (mkF m 48 #[.val (.ref a1), .val (.ref a2), .val (.int (0 : Int32)), .val (.int (Int32.ofNat 2)), .val .null, .val (.ref o3)] [(.int (1 : Int32)), (.ref a1)])) rfl rfl (hb hby d2_48)
    refine Goes.step st8 ?_
    have E_a1_8 := E_a1_3.wr W8
    have F_a1_value_8 := F_a1_value_3.other W8 (Or.inr (slot_ne (Or.inr (hw _ (List.mem_of_getElem? (i := 31) rfl))) (Or.inr (hw _ (List.mem_of_getElem? (i := 29) rfl))) (by decide) (t := (.array .byte)) (t' := .byte) (by decide) (by decide)))
    have A_a2_8 := A_a2_3.other W8 ne_a2_a1
    have hAu_8 := hAu.other W8 ne_o3_a1
    have z_8 : n0 ≤ h8.size := by rw [W8.size]; exact z_3
    have K_8 : Keep h0 h8 [a1] := K_3.wr W8 (Or.inl (List.mem_of_getElem? (i := 0) rfl))
    have N_8 := Fr.snoc X8 N_3 ge_a1
    have F_a1_coder_8 : Fld Z h8 a1 "java/lang/String" "coder" "B" (.int (1 : Int32)) := F_a1_coder_3.same W8
    show Goes p e below s _ _ _ T8 (mkF m 51 #[.val (.ref a1), .val (.ref a2), .val (.int (0 : Int32)), .val (.int (Int32.ofNat 2)), .val .null, .val (.ref o3)] [])
    refine Goes.step (fun _ k => XS.aloadN X8.here hx rfl (hb hby d2_51) rfl rfl k) ?_
    refine Goes.step (fun _ k => XS.aload X8.here hx rfl (hb hby d2_52) rfl rfl k) ?_
    show Goes p e below s _ _ _ T8 (mkF m 54 #[.val (.ref a1), .val (.ref a2), .val (.int (0 : Int32)), .val (.int (Int32.ofNat 2)), .val .null, .val (.ref o3)] [(.ref o3), (.ref a1)])
    obtain ⟨T9, h9, X9, e9, W9, st9⟩ := putF X8 hx hZ hown (host := "") (Or.inl (hw _ (List.mem_of_getElem? (i := 30) rfl))) Via.refl e8 F_a1_value_8 E_a1_8 (Or.inr ⟨(hw _ (List.mem_of_getElem? (i := 31) rfl)), rfl, hnm⟩) (hw _ (List.mem_of_getElem? (i := 3) rfl)) (ty := (.array .byte)) (by decide) rfl rfl (g := (mkF m 54 #[.val (.ref a1), .val (.ref a2), .val (.int (0 : Int32)), .val (.int (Int32.ofNat 2)), .val .null, .val (.ref o3)] [(.ref o3), (.ref a1)])) rfl rfl (hb hby d2_54)
    refine Goes.step st9 ?_
    have E_a1_9 := E_a1_8.wr W9
    have F_a1_coder_9 := F_a1_coder_8.other W9 (Or.inr (slot_ne (Or.inr (hw _ (List.mem_of_getElem? (i := 29) rfl))) (Or.inr (hw _ (List.mem_of_getElem? (i := 31) rfl))) (by decide) (t := .byte) (t' := (.array .byte)) (by decide) (by decide)))
    have A_a2_9 := A_a2_8.other W9 ne_a2_a1
    have hAu_9 := hAu_8.other W9 ne_o3_a1
    have z_9 : n0 ≤ h9.size := by rw [W9.size]; exact z_8
    have K_9 : Keep h0 h9 [a1] := K_8.wr W9 (Or.inl (List.mem_of_getElem? (i := 0) rfl))
    have N_9 := Fr.snoc X9 N_8 ge_a1
    have F_a1_value_9 : Fld Z h9 a1 "java/lang/String" "value" "[B" (.ref o3) := F_a1_value_8.same W9
    show Goes p e below s _ _ _ T9 (mkF m 57 #[.val (.ref a1), .val (.ref a2), .val (.int (0 : Int32)), .val (.int (Int32.ofNat 2)), .val .null, .val (.ref o3)] [])
    exact Goes.outV X9 hx hlk Bd.returns (hb hby d2_57) (by rw [e9]; exact ⟨rfl, N_9, K_9, ⟨E_a1_9, o3, F_a1_value_9, Or.inr ⟨F_a1_coder_9, hAu_9, fun j hj => own_g3u rg hj⟩⟩⟩) (by decide) (by decide)
theorem pd_1n2_0 : parseMethodDescriptor "([CIILjava/lang/Void;)V" = some ⟨[(.array .char), .int, .int, (.object "java/lang/Void")], none⟩ := by decide +kernel
theorem ef_1n2 (m : MethodId) (a1 : Addr) (a2 : Addr) : entryFrame m #[(.ref a1), (.ref a2)] 2 = mkF m 0 #[.val (.ref a1), .val (.ref a2)] [] := by first | (simp [entryFrame, mkF, argsToLocals, Value.category]; done) | rfl
def Q1n2 (Z : State) (a1 : Addr) (a2 : Addr) (G1 : Int32) (f : Nat → Int32) (h0 : Heap) (n0 : Nat) (v : Option Value) (h : Heap) (L : List Loc) : Prop := v = none ∧ Fr n0 L ∧ Keep h0 h [a1] ∧ Str Z h a1 2 f
set_option maxRecDepth 65536 in
set_option maxHeartbeats 40000000 in
theorem rm1n2 (l : Launch) (Z : State) (a0 : Array Value) (hw : ∀ d ∈ tables_1, d.before a0 Z = true) (ws : List Jvm.Cond) (a1 : Addr) (a2 : Addr) (G1 : Int32) (f : Nat → Int32) (h0 : Heap) (n0 : Nat) (Z0 : n0 ≤ h0.size) (O2 : Sta Z Z.heap "java/lang/String" "COMPACT_STRINGS" "Z" (.int G1)) (P3 : ¬ (G1 = (0 : Int32))) (OL : Old Z n0 h0) (O5 : Sta Z Z.heap "java/lang/StringUTF16" "$assertionsDisabled" "Z" (.int (1 : Int32))) (O6 : Sta Z Z.heap "java/lang/StringUTF16" "HI_BYTE_SHIFT" "I" (.int (0 : Int32))) (O7 : Sta Z Z.heap "java/lang/StringUTF16" "LO_BYTE_SHIFT" "I" (.int (8 : Int32))) (E_a1_0 : Exa Z h0 a1 "java/lang/String") (F_a1_value_0 : Fld Z h0 a1 "java/lang/String" "value" "[B" .null) (F_a1_coder_0 : Fld Z h0 a1 "java/lang/String" "coder" "B" (.int (0 : Int32))) (ge_a1 : n0 ≤ a1) (A_a2_0 : Ari Z h0 a2 .char 2 f) (rg : own_rg 2 f) (ne_a2_a1 : a2 ≠ a1) :
    MetFree l (⟨"java/lang/String", "<init>", "([C)V"⟩ : MethodName) (head1 (Jvm.Cond.code (⟨"java/lang/String", "<init>", "([C)V"⟩ : MethodName) jdk_42_method_3_code 2 none :: ws) ({ frames := 5, cells := 2, slots := 10, locals := 74 } : Room)) (fun a U => a = #[(.ref a1), (.ref a2)] ∧ Z.Warmed39 U.vm ∧ U.heap = h0) (fun _ _ _ _ _ => True) (fun _ U o U' => ∃ v L, o = .returned v ∧ Q1n2 Z a1 a2 G1 f h0 n0 v U'.heap L ∧ FrameEnd U o U' L ({ frames := 5, cells := 2, slots := 10, locals := 74 } : Room).cells ({ frames := 5, cells := 2, slots := 10, locals := 74 } : Room).slots) := by
  refine MetFree.of_bodySF (plainFor_of_name pn_1) hisR ?_
  intro p e s m args below meth c s₁ Bd hml0 hP hK
  obtain ⟨rfl, hZ, hh⟩ := hP
  have hx := Bd.exec
  have hby := Bd.bytes
  have hlk := Bd.notSynchronized
  have hml : c.maxLocals = 2 := hml0
  have hown : s.vm.findClass "java/lang/String" = some m.cls := findClass_of_methodNamed Bd.named
  have hnm := (name_of_methodNamed Bd.named Bd.method).1
  have X0 : Stand p l e ({ frames := 5, cells := 2, slots := 10, locals := 74 } : Room) s m #[(.ref a1), (.ref a2)] below meth c s₁ [] 0 0 := Stand.of_body Bd
  have e0 : s₁.heap = h0 := by rw [← hh, Bd.state]; rfl
  have N0 := Fr.nil n0
  have K0 : Keep h0 h0 [a1] := Keep.refl h0 _
  show Goes p e below s ({ frames := 5, cells := 2, slots := 10, locals := 74 } : Room).cells ({ frames := 5, cells := 2, slots := 10, locals := 74 } : Room).slots (Q1n2 Z a1 a2 G1 f h0 n0) s₁ (entryFrame m #[(.ref a1), (.ref a2)] 2)
  refine Goes.step (fun t k => castTop (ef_1n2 m a1 a2) k) ?_
  refine Goes.step (fun _ k => XS.aloadN X0.here hx rfl (hb hby d1_0) rfl rfl k) ?_
  refine Goes.step (fun _ k => XS.aloadN X0.here hx rfl (hb hby d1_1) rfl rfl k) ?_
  show Goes p e below s _ _ _ s₁ (mkF m 2 #[.val (.ref a1), .val (.ref a2)] [(.ref a2), (.ref a1)])
  refine Goes.step (fun _ k => XS.iconst X0.here hx rfl (hb hby d1_2) k) ?_
  refine Goes.step (fun _ k => XS.aloadN X0.here hx rfl (hb hby d1_3) rfl rfl k) ?_
  show Goes p e below s _ _ _ s₁ (mkF m 4 #[.val (.ref a1), .val (.ref a2)] [(.ref a2), (.int (0 : Int32)), (.ref a2), (.ref a1)])
  refine Goes.step (fun _ k => rdL X0 hx hZ e0 A_a2_0 (g := (mkF m 4 #[.val (.ref a1), .val (.ref a2)] [(.ref a2), (.int (0 : Int32)), (.ref a2), (.ref a1)])) rfl rfl (hb hby d1_4) _ k) ?_
  show Goes p e below s _ _ _ s₁ (mkF m 5 #[.val (.ref a1), .val (.ref a2)] [(.int (Int32.ofNat 2)), (.int (0 : Int32)), (.ref a2), (.ref a1)])
  refine Goes.step (fun _ k => XS.aconstNull X0.here hx rfl (hb hby d1_5) k) ?_
  obtain ⟨v1, T1, h1, L1, X1, e1, Q1, st1⟩ := callXI X0 hx hZ (b := a1) (y := (⟨"java/lang/String", "<init>", "([CIILjava/lang/Void;)V"⟩ : MethodName)) hown rfl (hw _ (List.mem_of_getElem? (i := 9) rfl)) (hw _ (List.mem_of_getElem? (i := 10) rfl)) (hw _ (List.mem_of_getElem? (i := 12) rfl)) (hw _ (List.mem_of_getElem? (i := 4) rfl)) (by decide) (W := 0) (argsL := [(.ref a2), (.int (0 : Int32)), (.int (Int32.ofNat 2)), .null]) (rest := []) (rm2n2 l Z a0 hw [] a1 a2 G1 f h0 n0 Z0 O2 P3 (OL.keep K0 (allS ge_a1 all0)) O5 O6 O7 E_a1_0 F_a1_value_0 F_a1_coder_0 ge_a1 A_a2_0 rg ne_a2_a1) (by decide) (by decide) (by decide) (by decide) e0 (g := (mkF m 6 #[.val (.ref a1), .val (.ref a2)] [.null, (.int (Int32.ofNat 2)), (.int (0 : Int32)), (.ref a2), (.ref a1)])) rfl (by rw [hml]; rfl) (lenOf pd_1n2_0 rfl) rfl (by show 2 * 0 + _ ≤ _; exact Nat.le_of_eq rfl) (hb hby d1_6)
  obtain ⟨rfl, NQ1, KQ1, hT1⟩ := Q1
  refine Goes.step st1 ?_
  have E_a1_1 := E_a1_0.keep KQ1
  have A_a2_1 := A_a2_0.keep KQ1 (ninS ne_a2_a1 nin0)
  have z_1 : n0 ≤ h1.size := Nat.le_trans Z0 KQ1.1
  have K_1 : Keep h0 h1 [a1] := Keep.trans K0 KQ1 (allS (Or.inl (List.mem_of_getElem? (i := 0) rfl)) all0)
  have N_1 := Fr.app N0 NQ1
  show Goes p e below s _ _ _ T1 (mkF m 9 #[.val (.ref a1), .val (.ref a2)] [])
  exact Goes.outV X1 hx hlk Bd.returns (hb hby d1_9) (by rw [e1]; exact ⟨rfl, N_1, K_1, hT1⟩) (by decide) (by decide)
theorem pd_2n3_0 : parseMethodDescriptor "([CII)[B" = some ⟨[(.array .char), .int, .int], some (.array .byte)⟩ := by decide +kernel
theorem pd_2n3_1 : parseMethodDescriptor "([BI)B" = some ⟨[(.array .byte), .int], some .byte⟩ := by decide +kernel
theorem ef_2n3 (m : MethodId) (a1 : Addr) (a2 : Addr) : entryFrame m #[(.ref a1), (.ref a2), (.int (0 : Int32)), (.int (Int32.ofNat 3)), .null] 6 = mkF m 0 #[.val (.ref a1), .val (.ref a2), .val (.int (0 : Int32)), .val (.int (Int32.ofNat 3)), .val .null, .unset] [] := by first | (simp [entryFrame, mkF, argsToLocals, Value.category]; done) | rfl
def Q2n3 (Z : State) (a1 : Addr) (a2 : Addr) (G1 : Int32) (f : Nat → Int32) (h0 : Heap) (n0 : Nat) (v : Option Value) (h : Heap) (L : List Loc) : Prop := v = none ∧ Fr n0 L ∧ Keep h0 h [a1] ∧ Str Z h a1 3 f
set_option maxRecDepth 65536 in
set_option maxHeartbeats 40000000 in
theorem rm2n3 (l : Launch) (Z : State) (a0 : Array Value) (hw : ∀ d ∈ tables_1, d.before a0 Z = true) (ws : List Jvm.Cond) (a1 : Addr) (a2 : Addr) (G1 : Int32) (f : Nat → Int32) (h0 : Heap) (n0 : Nat) (Z0 : n0 ≤ h0.size) (O2 : Sta Z Z.heap "java/lang/String" "COMPACT_STRINGS" "Z" (.int G1)) (P3 : ¬ (G1 = (0 : Int32))) (OL : Old Z n0 h0) (O5 : Sta Z Z.heap "java/lang/StringUTF16" "$assertionsDisabled" "Z" (.int (1 : Int32))) (O6 : Sta Z Z.heap "java/lang/StringUTF16" "HI_BYTE_SHIFT" "I" (.int (0 : Int32))) (O7 : Sta Z Z.heap "java/lang/StringUTF16" "LO_BYTE_SHIFT" "I" (.int (8 : Int32))) (E_a1_0 : Exa Z h0 a1 "java/lang/String") (F_a1_value_0 : Fld Z h0 a1 "java/lang/String" "value" "[B" .null) (F_a1_coder_0 : Fld Z h0 a1 "java/lang/String" "coder" "B" (.int (0 : Int32))) (ge_a1 : n0 ≤ a1) (A_a2_0 : Ari Z h0 a2 .char 3 f) (rg : own_rg 3 f) (ne_a2_a1 : a2 ≠ a1) :
    MetFree l (⟨"java/lang/String", "<init>", "([CIILjava/lang/Void;)V"⟩ : MethodName) (head1 (Jvm.Cond.code (⟨"java/lang/String", "<init>", "([CIILjava/lang/Void;)V"⟩ : MethodName) jdk_42_method_149_code 6 none :: ws) ({ frames := 4, cells := 2, slots := 11, locals := 57 } : Room)) (fun a U => a = #[(.ref a1), (.ref a2), (.int (0 : Int32)), (.int (Int32.ofNat 3)), .null] ∧ Z.Warmed39 U.vm ∧ U.heap = h0) (fun _ _ _ _ _ => True) (fun _ U o U' => ∃ v L, o = .returned v ∧ Q2n3 Z a1 a2 G1 f h0 n0 v U'.heap L ∧ FrameEnd U o U' L ({ frames := 4, cells := 2, slots := 11, locals := 57 } : Room).cells ({ frames := 4, cells := 2, slots := 11, locals := 57 } : Room).slots) := by
  refine MetFree.of_bodySF (plainFor_of_name pn_2) hisR ?_
  intro p e s m args below meth c s₁ Bd hml0 hP hK
  obtain ⟨rfl, hZ, hh⟩ := hP
  have hx := Bd.exec
  have hby := Bd.bytes
  have hlk := Bd.notSynchronized
  have hml : c.maxLocals = 6 := hml0
  have hown : s.vm.findClass "java/lang/String" = some m.cls := findClass_of_methodNamed Bd.named
  have hnm := (name_of_methodNamed Bd.named Bd.method).1
  have X0 : Stand p l e ({ frames := 4, cells := 2, slots := 11, locals := 57 } : Room) s m #[(.ref a1), (.ref a2), (.int (0 : Int32)), (.int (Int32.ofNat 3)), .null] below meth c s₁ [] 0 0 := Stand.of_body Bd
  have e0 : s₁.heap = h0 := by rw [← hh, Bd.state]; rfl
  have N0 := Fr.nil n0
  have K0 : Keep h0 h0 [a1] := Keep.refl h0 _
  show Goes p e below s ({ frames := 4, cells := 2, slots := 11, locals := 57 } : Room).cells ({ frames := 4, cells := 2, slots := 11, locals := 57 } : Room).slots (Q2n3 Z a1 a2 G1 f h0 n0) s₁ (entryFrame m #[(.ref a1), (.ref a2), (.int (0 : Int32)), (.int (Int32.ofNat 3)), .null] 6)
  refine Goes.step (fun t k => castTop (ef_2n3 m a1 a2) k) ?_
  refine Goes.step (fun _ k => XS.aloadN X0.here hx rfl (hb hby d2_0) rfl rfl k) ?_
  obtain ⟨T1, X1, e1, st1⟩ := initO X0 hx hZ hown (hw _ (List.mem_of_getElem? (i := 13) rfl)) (hw _ (List.mem_of_getElem? (i := 14) rfl)) (hw _ (List.mem_of_getElem? (i := 15) rfl)) e0 (g := (mkF m 1 #[.val (.ref a1), .val (.ref a2), .val (.int (0 : Int32)), .val (.int (Int32.ofNat 3)), .val .null, .unset] [(.ref a1)])) rfl (by rw [hml]; rfl) rfl (hb hby d2_1) (by decide) (W := 0) (by show 2 * 0 + _ ≤ _; exact Nat.le_of_eq rfl) (by decide)
  refine Goes.step st1 ?_
  show Goes p e below s _ _ _ T1 (mkF m 4 #[.val (.ref a1), .val (.ref a2), .val (.int (0 : Int32)), .val (.int (Int32.ofNat 3)), .val .null, .unset] [])
  refine Goes.step (fun _ k => XS.iloadN X1.here hx rfl (hb hby d2_4) rfl k) ?_
  refine Goes.step (fun _ k => XS.ifYes X1.here hx rfl (pc0 := 5) (pc' := 27) rfl (hb hby d2_5) rfl ((if0 _ _).trans (feq (by decide : ¬ ((Int32.ofNat 3) = (0 : Int32)))).2) (by decide) (by decide) k) ?_
  show Goes p e below s _ _ _ T1 (mkF m 27 #[.val (.ref a1), .val (.ref a2), .val (.int (0 : Int32)), .val (.int (Int32.ofNat 3)), .val .null, .unset] [])
  obtain ⟨T2, X2, e2, st2⟩ := getS2 X1 hx hZ hown (host := "") (Or.inl (hw _ (List.mem_of_getElem? (i := 16) rfl))) Via.refl e1 (O2.ext (OL.keep K0 (allS ge_a1 all0)).2) (g := (mkF m 27 #[.val (.ref a1), .val (.ref a2), .val (.int (0 : Int32)), .val (.int (Int32.ofNat 3)), .val .null, .unset] [])) rfl (hb hby d2_27)
  refine Goes.step st2 ?_
  show Goes p e below s _ _ _ T2 (mkF m 30 #[.val (.ref a1), .val (.ref a2), .val (.int (0 : Int32)), .val (.int (Int32.ofNat 3)), .val .null, .unset] [(.int G1)])
  refine Goes.step (fun _ k => XS.ifNo X2.here hx rfl (hb hby d2_30) rfl ((if0 _ _).trans (feq P3).1) k) ?_
  show Goes p e below s _ _ _ T2 (mkF m 33 #[.val (.ref a1), .val (.ref a2), .val (.int (0 : Int32)), .val (.int (Int32.ofNat 3)), .val .null, .unset] [])
  refine Goes.step (fun _ k => XS.aloadN X2.here hx rfl (hb hby d2_33) rfl rfl k) ?_
  refine Goes.step (fun _ k => XS.iloadN X2.here hx rfl (hb hby d2_34) rfl k) ?_
  show Goes p e below s _ _ _ T2 (mkF m 35 #[.val (.ref a1), .val (.ref a2), .val (.int (0 : Int32)), .val (.int (Int32.ofNat 3)), .val .null, .unset] [(.int (0 : Int32)), (.ref a2)])
  refine Goes.step (fun _ k => XS.iloadN X2.here hx rfl (hb hby d2_35) rfl k) ?_
  obtain ⟨v3, T3, h3, L3, X3, e3, Q3, st3⟩ := callX X2 hx hZ (y := (⟨"java/lang/StringUTF16", "compress", "([CII)[B"⟩ : MethodName)) hown (hw _ (List.mem_of_getElem? (i := 17) rfl)) (hw _ (List.mem_of_getElem? (i := 18) rfl)) (hw _ (List.mem_of_getElem? (i := 19) rfl)) (hw _ (List.mem_of_getElem? (i := 20) rfl)) (by decide) (W := 0) (argsL := [(.ref a2), (.int (0 : Int32)), (.int (Int32.ofNat 3))]) (rest := []) (rm4n3 l Z a0 hw [] a2 f h0 n0 Z0 (OL.keep K0 (allS ge_a1 all0)) O5 O6 O7 A_a2_0 rg) (by decide) (by decide) (by decide) (by decide) e2 (g := (mkF m 36 #[.val (.ref a1), .val (.ref a2), .val (.int (0 : Int32)), .val (.int (Int32.ofNat 3)), .val .null, .unset] [(.int (Int32.ofNat 3)), (.int (0 : Int32)), (.ref a2)])) rfl (by rw [hml]; rfl) (lenOf pd_2n3_0 rfl) rfl (by show 2 * 0 + _ ≤ _; exact Nat.le_of_eq rfl) (hb hby d2_36)
  obtain ⟨o3, rfl, NQ3, KQ3, so3, hD3⟩ := Q3
  refine Goes.step st3 ?_
  have E_a1_3 := E_a1_0.keep KQ3
  have F_a1_value_3 := F_a1_value_0.keep KQ3 nin0
  have F_a1_coder_3 := F_a1_coder_0.keep KQ3 nin0
  have A_a2_3 := A_a2_0.keep KQ3 nin0
  have z_3 : n0 ≤ h3.size := Nat.le_trans Z0 KQ3.1
  have K_3 : Keep h0 h3 [a1] := Keep.trans K0 KQ3 all0
  have N_3 := Fr.app N0 NQ3
  have ne_o3_a1 : o3 ≠ a1 := Nat.ne_of_gt (Nat.lt_of_lt_of_le E_a1_0.lt so3)
  have ne_o3_a2 : o3 ≠ a2 := Nat.ne_of_gt (Nat.lt_of_lt_of_le A_a2_0.lt so3)
  have ge_o3 : n0 ≤ o3 := Nat.le_trans Z0 so3
  have sz_o3 : h0.size ≤ o3 := Nat.le_trans K0.1 so3
  show Goes p e below s _ _ _ T3 (mkF m 39 #[.val (.ref a1), .val (.ref a2), .val (.int (0 : Int32)), .val (.int (Int32.ofNat 3)), .val .null, .unset] [(.ref o3)])
  rcases hD3 with ⟨hAl, hall⟩ | hAu
  · have hA0 := hAl
    refine Goes.step (fun _ k => XS.astore X3.here hx rfl (hb hby d2_39) rfl rfl (l' := #[.val (.ref a1), .val (.ref a2), .val (.int (0 : Int32)), .val (.int (Int32.ofNat 3)), .val .null, .val (.ref o3)]) rfl k) ?_
    refine Goes.step (fun _ k => XS.aloadN X3.here hx rfl (hb hby d2_41) rfl rfl k) ?_
    show Goes p e below s _ _ _ T3 (mkF m 42 #[.val (.ref a1), .val (.ref a2), .val (.int (0 : Int32)), .val (.int (Int32.ofNat 3)), .val .null, .val (.ref o3)] [(.ref a1)])
    refine Goes.step (fun _ k => XS.aload X3.here hx rfl (hb hby d2_42) rfl rfl k) ?_
    refine Goes.step (fun _ k => XS.iloadN X3.here hx rfl (hb hby d2_44) rfl k) ?_
    show Goes p e below s _ _ _ T3 (mkF m 45 #[.val (.ref a1), .val (.ref a2), .val (.int (0 : Int32)), .val (.int (Int32.ofNat 3)), .val .null, .val (.ref o3)] [(.int (Int32.ofNat 3)), (.ref o3), (.ref a1)])
    obtain ⟨T4, X4, e4, st4⟩ := own_pure (r := some (.int (0 : Int32))) (fun _ _ _ q => q) (callX X3 hx hZ (y := (⟨"java/lang/StringUTF16", "coderFromArrayLen", "([BI)B"⟩ : MethodName)) hown (hw _ (List.mem_of_getElem? (i := 25) rfl)) (hw _ (List.mem_of_getElem? (i := 26) rfl)) (hw _ (List.mem_of_getElem? (i := 19) rfl)) (hw _ (List.mem_of_getElem? (i := 27) rfl)) (by decide) (W := 1) (argsL := [(.ref o3), (.int (Int32.ofNat 3))]) (rest := [(.ref a1)]) (rm6 l Z a0 hw [] o3 (Int32.ofNat 3) (3) (fun j => own_bb (f j)) (0 : Int32) h3 n0 z_3 hAl (by decide)) (by decide) (by decide) (by decide) (by decide) e3 (g := (mkF m 45 #[.val (.ref a1), .val (.ref a2), .val (.int (0 : Int32)), .val (.int (Int32.ofNat 3)), .val .null, .val (.ref o3)] [(.int (Int32.ofNat 3)), (.ref o3), (.ref a1)])) rfl (by rw [hml]; rfl) (lenOf pd_2n3_1 rfl) rfl (by show 2 * 0 + _ ≤ _; exact Nat.le_of_eq rfl) (hb hby d2_45))
    refine Goes.step st4 ?_
    show Goes p e below s _ _ _ T4 (mkF m 48 #[.val (.ref a1), .val (.ref a2), .val (.int (0 : Int32)), .val (.int (Int32.ofNat 3)), .val .null, .val (.ref o3)] [(.int (0 : Int32)), (.ref a1)])
    obtain ⟨T5, h5, X5, e5, W5, st5⟩ := putF X4 hx hZ hown (host := "") (Or.inl (hw _ (List.mem_of_getElem? (i := 28) rfl))) Via.refl e4 F_a1_coder_3 E_a1_3 (Or.inr ⟨(hw _ (List.mem_of_getElem? (i := 29) rfl)), rfl, hnm⟩) (hw _ (List.mem_of_getElem? (i := 3) rfl)) (ty := .byte) (by decide) rfl rfl (g := (mkF m 48 #[.val (.ref a1), .val (.ref a2), .val (.int (0 : Int32)), .val (.int (Int32.ofNat 3)), .val .null, .val (.ref o3)] [(.int (0 : Int32)), (.ref a1)])) rfl rfl (hb hby d2_48)
    refine Goes.step st5 ?_
    have E_a1_5 := E_a1_3.wr W5
    have F_a1_value_5 := F_a1_value_3.other W5 (Or.inr (slot_ne (Or.inr (hw _ (List.mem_of_getElem? (i := 31) rfl))) (Or.inr (hw _ (List.mem_of_getElem? (i := 29) rfl))) (by decide) (t := (.array .byte)) (t' := .byte) (by decide) (by decide)))
    have A_a2_5 := A_a2_3.other W5 ne_a2_a1
    have hAl_5 := hAl.other W5 ne_o3_a1
    have z_5 : n0 ≤ h5.size := by rw [W5.size]; exact z_3
    have K_5 : Keep h0 h5 [a1] := K_3.wr W5 (Or.inl (List.mem_of_getElem? (i := 0) rfl))
    have N_5 := Fr.snoc X5 N_3 ge_a1
    have F_a1_coder_5 : Fld Z h5 a1 "java/lang/String" "coder" "B" (.int (0 : Int32)) := F_a1_coder_3.same W5
    show Goes p e below s _ _ _ T5 (mkF m 51 #[.val (.ref a1), .val (.ref a2), .val (.int (0 : Int32)), .val (.int (Int32.ofNat 3)), .val .null, .val (.ref o3)] [])
    refine Goes.step (fun _ k => XS.aloadN X5.here hx rfl (hb hby d2_51) rfl rfl k) ?_
    refine Goes.step (fun _ k => XS.aload X5.here hx rfl (hb hby d2_52) rfl rfl k) ?_
    show Goes p e below s _ _ _ T5 (mkF m 54 #[.val (.ref a1), .val (.ref a2), .val (.int (0 : Int32)), .val (.int (Int32.ofNat 3)), .val .null, .val (.ref o3)] [(.ref o3), (.ref a1)])
    obtain ⟨T6, h6, X6, e6, W6, st6⟩ := putF X5 hx hZ hown (host := "") (Or.inl (hw _ (List.mem_of_getElem? (i := 30) rfl))) Via.refl e5 F_a1_value_5 E_a1_5 (Or.inr ⟨(hw _ (List.mem_of_getElem? (i := 31) rfl)), rfl, hnm⟩) (hw _ (List.mem_of_getElem? (i := 3) rfl)) (ty := (.array .byte)) (by decide) rfl rfl (g := (mkF m 54 #[.val (.ref a1), .val (.ref a2), .val (.int (0 : Int32)), .val (.int (Int32.ofNat 3)), .val .null, .val (.ref o3)] [(.ref o3), (.ref a1)])) rfl rfl (hb hby d2_54)
    refine Goes.step st6 ?_
    have E_a1_6 := E_a1_5.wr W6
    have F_a1_coder_6 := F_a1_coder_5.other W6 (Or.inr (slot_ne (Or.inr (hw _ (List.mem_of_getElem? (i := 29) rfl))) (Or.inr (hw _ (List.mem_of_getElem? (i := 31) rfl))) (by decide) (t := .byte) (t' := (.array .byte)) (by decide) (by decide)))
    have A_a2_6 := A_a2_5.other W6 ne_a2_a1
    have hAl_6 := hAl_5.other W6 ne_o3_a1
    have z_6 : n0 ≤ h6.size := by rw [W6.size]; exact z_5
    have K_6 : Keep h0 h6 [a1] := K_5.wr W6 (Or.inl (List.mem_of_getElem? (i := 0) rfl))
    have N_6 := Fr.snoc X6 N_5 ge_a1
    have F_a1_value_6 : Fld Z h6 a1 "java/lang/String" "value" "[B" (.ref o3) := F_a1_value_5.same W6
    show Goes p e below s _ _ _ T6 (mkF m 57 #[.val (.ref a1), .val (.ref a2), .val (.int (0 : Int32)), .val (.int (Int32.ofNat 3)), .val .null, .val (.ref o3)] [])
    exact Goes.outV X6 hx hlk Bd.returns (hb hby d2_57) (by rw [e6]; exact ⟨rfl, N_6, K_6, ⟨E_a1_6, o3, F_a1_value_6, Or.inl ⟨F_a1_coder_6, hAl_6, fun j hj => own_lat (rg j hj).1 (hall j hj)⟩⟩⟩) (by decide) (by decide)
  · have hA0 := hAu
    refine Goes.step (fun _ k => XS.astore X3.here hx rfl (hb hby d2_39) rfl rfl (l' := #[.val (.ref a1), .val (.ref a2), .val (.int (0 : Int32)), .val (.int (Int32.ofNat 3)), .val .null, .val (.ref o3)]) rfl k) ?_
    refine Goes.step (fun _ k => XS.aloadN X3.here hx rfl (hb hby d2_41) rfl rfl k) ?_
    show Goes p e below s _ _ _ T3 (mkF m 42 #[.val (.ref a1), .val (.ref a2), .val (.int (0 : Int32)), .val (.int (Int32.ofNat 3)), .val .null, .val (.ref o3)] [(.ref a1)])
    refine Goes.step (fun _ k => XS.aload X3.here hx rfl (hb hby d2_42) rfl rfl k) ?_
    refine Goes.step (fun _ k => XS.iloadN X3.here hx rfl (hb hby d2_44) rfl k) ?_
    show Goes p e below s _ _ _ T3 (mkF m 45 #[.val (.ref a1), .val (.ref a2), .val (.int (0 : Int32)), .val (.int (Int32.ofNat 3)), .val .null, .val (.ref o3)] [(.int (Int32.ofNat 3)), (.ref o3), (.ref a1)])
    obtain ⟨T7, X7, e7, st7⟩ := own_pure (r := some (.int (1 : Int32))) (fun _ _ _ q => q) (callX X3 hx hZ (y := (⟨"java/lang/StringUTF16", "coderFromArrayLen", "([BI)B"⟩ : MethodName)) hown (hw _ (List.mem_of_getElem? (i := 25) rfl)) (hw _ (List.mem_of_getElem? (i := 26) rfl)) (hw _ (List.mem_of_getElem? (i := 19) rfl)) (hw _ (List.mem_of_getElem? (i := 27) rfl)) (by decide) (W := 1) (argsL := [(.ref o3), (.int (Int32.ofNat 3))]) (rest := [(.ref a1)]) (rm6 l Z a0 hw [] o3 (Int32.ofNat 3) (2 * 3) (own_u f) (1 : Int32) h3 n0 z_3 hAu (by decide)) (by decide) (by decide) (by decide) (by decide) e3 (g := (mkF m 45 #[.val (.ref a1), .val (.ref a2), .val (.int (0 : Int32)), .val (.int (Int32.ofNat 3)), .val .null, .val (.ref o3)] [(.int (Int32.ofNat 3)), (.ref o3), (.ref a1)])) rfl (by rw [hml]; rfl) (lenOf pd_2n3_1 rfl) rfl (by show 2 * 0 + _ ≤ _; exact Nat.le_of_eq rfl) (hb hby d2_45))
    refine Goes.step st7 ?_
    show Goes p e below s _ _ _ T7 (mkF m 48 #[.val (.ref a1), .val (.ref a2), .val (.int (0 : Int32)), .val (.int (Int32.ofNat 3)), .val .null, .val (.ref o3)] [(.int (1 : Int32)), (.ref a1)])
    obtain ⟨T8, h8, X8, e8, W8, st8⟩ := putF X7 hx hZ hown (host := "") (Or.inl (hw _ (List.mem_of_getElem? (i := 28) rfl))) Via.refl e7 F_a1_coder_3 E_a1_3 (Or.inr ⟨(hw _ (List.mem_of_getElem? (i := 29) rfl)), rfl, hnm⟩) (hw _ (List.mem_of_getElem? (i := 3) rfl)) (ty := .byte) (by decide) rfl rfl (g := (mkF m 48 #[.val (.ref a1), .val (.ref a2), .val (.int (0 : Int32)), .val (.int (Int32.ofNat 3)), .val .null, .val (.ref o3)] [(.int (1 : Int32)), (.ref a1)])) rfl rfl (hb hby d2_48)
    refine Goes.step st8 ?_
    have E_a1_8 := E_a1_3.wr W8
    have F_a1_value_8 := F_a1_value_3.other W8 (Or.inr (slot_ne (Or.inr (hw _ (List.mem_of_getElem? (i := 31) rfl))) (Or.inr (hw _ (List.mem_of_getElem? (i := 29) rfl))) (by decide) (t := (.array .byte)) (t' := .byte) (by decide) (by decide)))
    have A_a2_8 := A_a2_3.other W8 ne_a2_a1
    have hAu_8 := hAu.other W8 ne_o3_a1
    have z_8 : n0 ≤ h8.size := by rw [W8.size]; exact z_3
    have K_8 : Keep h0 h8 [a1] := K_3.wr W8 (Or.inl (List.mem_of_getElem? (i := 0) rfl))
    have N_8 := Fr.snoc X8 N_3 ge_a1
    have F_a1_coder_8 : Fld Z h8 a1 "java/lang/String" "coder" "B" (.int (1 : Int32)) := F_a1_coder_3.same W8
    show Goes p e below s _ _ _ T8 (mkF m 51 #[.val (.ref a1), .val (.ref a2), .val (.int (0 : Int32)), .val (.int (Int32.ofNat 3)), .val .null, .val (.ref o3)] [])
    refine Goes.step (fun _ k => XS.aloadN X8.here hx rfl (hb hby d2_51) rfl rfl k) ?_
    refine Goes.step (fun _ k => XS.aload X8.here hx rfl (hb hby d2_52) rfl rfl k) ?_
    show Goes p e below s _ _ _ T8 (mkF m 54 #[.val (.ref a1), .val (.ref a2), .val (.int (0 : Int32)), .val (.int (Int32.ofNat 3)), .val .null, .val (.ref o3)] [(.ref o3), (.ref a1)])
    obtain ⟨T9, h9, X9, e9, W9, st9⟩ := putF X8 hx hZ hown (host := "") (Or.inl (hw _ (List.mem_of_getElem? (i := 30) rfl))) Via.refl e8 F_a1_value_8 E_a1_8 (Or.inr ⟨(hw _ (List.mem_of_getElem? (i := 31) rfl)), rfl, hnm⟩) (hw _ (List.mem_of_getElem? (i := 3) rfl)) (ty := (.array .byte)) (by decide) rfl rfl (g := (mkF m 54 #[.val (.ref a1), .val (.ref a2), .val (.int (0 : Int32)), .val (.int (Int32.ofNat 3)), .val .null, .val (.ref o3)] [(.ref o3), (.ref a1)])) rfl rfl (hb hby d2_54)
    refine Goes.step st9 ?_
    have E_a1_9 := E_a1_8.wr W9
    have F_a1_coder_9 := F_a1_coder_8.other W9 (Or.inr (slot_ne (Or.inr (hw _ (List.mem_of_getElem? (i := 29) rfl))) (Or.inr (hw _ (List.mem_of_getElem? (i := 31) rfl))) (by decide) (t := .byte) (t' := (.array .byte)) (by decide) (by decide)))
    have A_a2_9 := A_a2_8.other W9 ne_a2_a1
    have hAu_9 := hAu_8.other W9 ne_o3_a1
    have z_9 : n0 ≤ h9.size := by rw [W9.size]; exact z_8
    have K_9 : Keep h0 h9 [a1] := K_8.wr W9 (Or.inl (List.mem_of_getElem? (i := 0) rfl))
    have N_9 := Fr.snoc X9 N_8 ge_a1
    have F_a1_value_9 : Fld Z h9 a1 "java/lang/String" "value" "[B" (.ref o3) := F_a1_value_8.same W9
    show Goes p e below s _ _ _ T9 (mkF m 57 #[.val (.ref a1), .val (.ref a2), .val (.int (0 : Int32)), .val (.int (Int32.ofNat 3)), .val .null, .val (.ref o3)] [])
    exact Goes.outV X9 hx hlk Bd.returns (hb hby d2_57) (by rw [e9]; exact ⟨rfl, N_9, K_9, ⟨E_a1_9, o3, F_a1_value_9, Or.inr ⟨F_a1_coder_9, hAu_9, fun j hj => own_g3u rg hj⟩⟩⟩) (by decide) (by decide)
theorem pd_1n3_0 : parseMethodDescriptor "([CIILjava/lang/Void;)V" = some ⟨[(.array .char), .int, .int, (.object "java/lang/Void")], none⟩ := by decide +kernel
theorem ef_1n3 (m : MethodId) (a1 : Addr) (a2 : Addr) : entryFrame m #[(.ref a1), (.ref a2)] 2 = mkF m 0 #[.val (.ref a1), .val (.ref a2)] [] := by first | (simp [entryFrame, mkF, argsToLocals, Value.category]; done) | rfl
def Q1n3 (Z : State) (a1 : Addr) (a2 : Addr) (G1 : Int32) (f : Nat → Int32) (h0 : Heap) (n0 : Nat) (v : Option Value) (h : Heap) (L : List Loc) : Prop := v = none ∧ Fr n0 L ∧ Keep h0 h [a1] ∧ Str Z h a1 3 f
set_option maxRecDepth 65536 in
set_option maxHeartbeats 40000000 in
theorem rm1n3 (l : Launch) (Z : State) (a0 : Array Value) (hw : ∀ d ∈ tables_1, d.before a0 Z = true) (ws : List Jvm.Cond) (a1 : Addr) (a2 : Addr) (G1 : Int32) (f : Nat → Int32) (h0 : Heap) (n0 : Nat) (Z0 : n0 ≤ h0.size) (O2 : Sta Z Z.heap "java/lang/String" "COMPACT_STRINGS" "Z" (.int G1)) (P3 : ¬ (G1 = (0 : Int32))) (OL : Old Z n0 h0) (O5 : Sta Z Z.heap "java/lang/StringUTF16" "$assertionsDisabled" "Z" (.int (1 : Int32))) (O6 : Sta Z Z.heap "java/lang/StringUTF16" "HI_BYTE_SHIFT" "I" (.int (0 : Int32))) (O7 : Sta Z Z.heap "java/lang/StringUTF16" "LO_BYTE_SHIFT" "I" (.int (8 : Int32))) (E_a1_0 : Exa Z h0 a1 "java/lang/String") (F_a1_value_0 : Fld Z h0 a1 "java/lang/String" "value" "[B" .null) (F_a1_coder_0 : Fld Z h0 a1 "java/lang/String" "coder" "B" (.int (0 : Int32))) (ge_a1 : n0 ≤ a1) (A_a2_0 : Ari Z h0 a2 .char 3 f) (rg : own_rg 3 f) (ne_a2_a1 : a2 ≠ a1) :
    MetFree l (⟨"java/lang/String", "<init>", "([C)V"⟩ : MethodName) (head1 (Jvm.Cond.code (⟨"java/lang/String", "<init>", "([C)V"⟩ : MethodName) jdk_42_method_3_code 2 none :: ws) ({ frames := 5, cells := 2, slots := 11, locals := 74 } : Room)) (fun a U => a = #[(.ref a1), (.ref a2)] ∧ Z.Warmed39 U.vm ∧ U.heap = h0) (fun _ _ _ _ _ => True) (fun _ U o U' => ∃ v L, o = .returned v ∧ Q1n3 Z a1 a2 G1 f h0 n0 v U'.heap L ∧ FrameEnd U o U' L ({ frames := 5, cells := 2, slots := 11, locals := 74 } : Room).cells ({ frames := 5, cells := 2, slots := 11, locals := 74 } : Room).slots) := by
  refine MetFree.of_bodySF (plainFor_of_name pn_1) hisR ?_
  intro p e s m args below meth c s₁ Bd hml0 hP hK
  obtain ⟨rfl, hZ, hh⟩ := hP
  have hx := Bd.exec
  have hby := Bd.bytes
  have hlk := Bd.notSynchronized
  have hml : c.maxLocals = 2 := hml0
  have hown : s.vm.findClass "java/lang/String" = some m.cls := findClass_of_methodNamed Bd.named
  have hnm := (name_of_methodNamed Bd.named Bd.method).1
  have X0 : Stand p l e ({ frames := 5, cells := 2, slots := 11, locals := 74 } : Room) s m #[(.ref a1), (.ref a2)] below meth c s₁ [] 0 0 := Stand.of_body Bd
  have e0 : s₁.heap = h0 := by rw [← hh, Bd.state]; rfl
  have N0 := Fr.nil n0
  have K0 : Keep h0 h0 [a1] := Keep.refl h0 _
  show Goes p e below s ({ frames := 5, cells := 2, slots := 11, locals := 74 } : Room).cells ({ frames := 5, cells := 2, slots := 11, locals := 74 } : Room).slots (Q1n3 Z a1 a2 G1 f h0 n0) s₁ (entryFrame m #[(.ref a1), (.ref a2)] 2)
  refine Goes.step (fun t k => castTop (ef_1n3 m a1 a2) k) ?_
  refine Goes.step (fun _ k => XS.aloadN X0.here hx rfl (hb hby d1_0) rfl rfl k) ?_
  refine Goes.step (fun _ k => XS.aloadN X0.here hx rfl (hb hby d1_1) rfl rfl k) ?_
  show Goes p e below s _ _ _ s₁ (mkF m 2 #[.val (.ref a1), .val (.ref a2)] [(.ref a2), (.ref a1)])
  refine Goes.step (fun _ k => XS.iconst X0.here hx rfl (hb hby d1_2) k) ?_
  refine Goes.step (fun _ k => XS.aloadN X0.here hx rfl (hb hby d1_3) rfl rfl k) ?_
  show Goes p e below s _ _ _ s₁ (mkF m 4 #[.val (.ref a1), .val (.ref a2)] [(.ref a2), (.int (0 : Int32)), (.ref a2), (.ref a1)])
  refine Goes.step (fun _ k => rdL X0 hx hZ e0 A_a2_0 (g := (mkF m 4 #[.val (.ref a1), .val (.ref a2)] [(.ref a2), (.int (0 : Int32)), (.ref a2), (.ref a1)])) rfl rfl (hb hby d1_4) _ k) ?_
  show Goes p e below s _ _ _ s₁ (mkF m 5 #[.val (.ref a1), .val (.ref a2)] [(.int (Int32.ofNat 3)), (.int (0 : Int32)), (.ref a2), (.ref a1)])
  refine Goes.step (fun _ k => XS.aconstNull X0.here hx rfl (hb hby d1_5) k) ?_
  obtain ⟨v1, T1, h1, L1, X1, e1, Q1, st1⟩ := callXI X0 hx hZ (b := a1) (y := (⟨"java/lang/String", "<init>", "([CIILjava/lang/Void;)V"⟩ : MethodName)) hown rfl (hw _ (List.mem_of_getElem? (i := 9) rfl)) (hw _ (List.mem_of_getElem? (i := 10) rfl)) (hw _ (List.mem_of_getElem? (i := 12) rfl)) (hw _ (List.mem_of_getElem? (i := 4) rfl)) (by decide) (W := 0) (argsL := [(.ref a2), (.int (0 : Int32)), (.int (Int32.ofNat 3)), .null]) (rest := []) (rm2n3 l Z a0 hw [] a1 a2 G1 f h0 n0 Z0 O2 P3 (OL.keep K0 (allS ge_a1 all0)) O5 O6 O7 E_a1_0 F_a1_value_0 F_a1_coder_0 ge_a1 A_a2_0 rg ne_a2_a1) (by decide) (by decide) (by decide) (by decide) e0 (g := (mkF m 6 #[.val (.ref a1), .val (.ref a2)] [.null, (.int (Int32.ofNat 3)), (.int (0 : Int32)), (.ref a2), (.ref a1)])) rfl (by rw [hml]; rfl) (lenOf pd_1n3_0 rfl) rfl (by show 2 * 0 + _ ≤ _; exact Nat.le_of_eq rfl) (hb hby d1_6)
  obtain ⟨rfl, NQ1, KQ1, hT1⟩ := Q1
  refine Goes.step st1 ?_
  have E_a1_1 := E_a1_0.keep KQ1
  have A_a2_1 := A_a2_0.keep KQ1 (ninS ne_a2_a1 nin0)
  have z_1 : n0 ≤ h1.size := Nat.le_trans Z0 KQ1.1
  have K_1 : Keep h0 h1 [a1] := Keep.trans K0 KQ1 (allS (Or.inl (List.mem_of_getElem? (i := 0) rfl)) all0)
  have N_1 := Fr.app N0 NQ1
  show Goes p e below s _ _ _ T1 (mkF m 9 #[.val (.ref a1), .val (.ref a2)] [])
  exact Goes.outV X1 hx hlk Bd.returns (hb hby d1_9) (by rw [e1]; exact ⟨rfl, N_1, K_1, hT1⟩) (by decide) (by decide)
theorem pd_2n4_0 : parseMethodDescriptor "([CII)[B" = some ⟨[(.array .char), .int, .int], some (.array .byte)⟩ := by decide +kernel
theorem pd_2n4_1 : parseMethodDescriptor "([BI)B" = some ⟨[(.array .byte), .int], some .byte⟩ := by decide +kernel
theorem ef_2n4 (m : MethodId) (a1 : Addr) (a2 : Addr) : entryFrame m #[(.ref a1), (.ref a2), (.int (0 : Int32)), (.int (Int32.ofNat 4)), .null] 6 = mkF m 0 #[.val (.ref a1), .val (.ref a2), .val (.int (0 : Int32)), .val (.int (Int32.ofNat 4)), .val .null, .unset] [] := by first | (simp [entryFrame, mkF, argsToLocals, Value.category]; done) | rfl
def Q2n4 (Z : State) (a1 : Addr) (a2 : Addr) (G1 : Int32) (f : Nat → Int32) (h0 : Heap) (n0 : Nat) (v : Option Value) (h : Heap) (L : List Loc) : Prop := v = none ∧ Fr n0 L ∧ Keep h0 h [a1] ∧ Str Z h a1 4 f
set_option maxRecDepth 65536 in
set_option maxHeartbeats 40000000 in
theorem rm2n4 (l : Launch) (Z : State) (a0 : Array Value) (hw : ∀ d ∈ tables_1, d.before a0 Z = true) (ws : List Jvm.Cond) (a1 : Addr) (a2 : Addr) (G1 : Int32) (f : Nat → Int32) (h0 : Heap) (n0 : Nat) (Z0 : n0 ≤ h0.size) (O2 : Sta Z Z.heap "java/lang/String" "COMPACT_STRINGS" "Z" (.int G1)) (P3 : ¬ (G1 = (0 : Int32))) (OL : Old Z n0 h0) (O5 : Sta Z Z.heap "java/lang/StringUTF16" "$assertionsDisabled" "Z" (.int (1 : Int32))) (O6 : Sta Z Z.heap "java/lang/StringUTF16" "HI_BYTE_SHIFT" "I" (.int (0 : Int32))) (O7 : Sta Z Z.heap "java/lang/StringUTF16" "LO_BYTE_SHIFT" "I" (.int (8 : Int32))) (E_a1_0 : Exa Z h0 a1 "java/lang/String") (F_a1_value_0 : Fld Z h0 a1 "java/lang/String" "value" "[B" .null) (F_a1_coder_0 : Fld Z h0 a1 "java/lang/String" "coder" "B" (.int (0 : Int32))) (ge_a1 : n0 ≤ a1) (A_a2_0 : Ari Z h0 a2 .char 4 f) (rg : own_rg 4 f) (ne_a2_a1 : a2 ≠ a1) :
    MetFree l (⟨"java/lang/String", "<init>", "([CIILjava/lang/Void;)V"⟩ : MethodName) (head1 (Jvm.Cond.code (⟨"java/lang/String", "<init>", "([CIILjava/lang/Void;)V"⟩ : MethodName) jdk_42_method_149_code 6 none :: ws) ({ frames := 4, cells := 2, slots := 12, locals := 57 } : Room)) (fun a U => a = #[(.ref a1), (.ref a2), (.int (0 : Int32)), (.int (Int32.ofNat 4)), .null] ∧ Z.Warmed39 U.vm ∧ U.heap = h0) (fun _ _ _ _ _ => True) (fun _ U o U' => ∃ v L, o = .returned v ∧ Q2n4 Z a1 a2 G1 f h0 n0 v U'.heap L ∧ FrameEnd U o U' L ({ frames := 4, cells := 2, slots := 12, locals := 57 } : Room).cells ({ frames := 4, cells := 2, slots := 12, locals := 57 } : Room).slots) := by
  refine MetFree.of_bodySF (plainFor_of_name pn_2) hisR ?_
  intro p e s m args below meth c s₁ Bd hml0 hP hK
  obtain ⟨rfl, hZ, hh⟩ := hP
  have hx := Bd.exec
  have hby := Bd.bytes
  have hlk := Bd.notSynchronized
  have hml : c.maxLocals = 6 := hml0
  have hown : s.vm.findClass "java/lang/String" = some m.cls := findClass_of_methodNamed Bd.named
  have hnm := (name_of_methodNamed Bd.named Bd.method).1
  have X0 : Stand p l e ({ frames := 4, cells := 2, slots := 12, locals := 57 } : Room) s m #[(.ref a1), (.ref a2), (.int (0 : Int32)), (.int (Int32.ofNat 4)), .null] below meth c s₁ [] 0 0 := Stand.of_body Bd
  have e0 : s₁.heap = h0 := by rw [← hh, Bd.state]; rfl
  have N0 := Fr.nil n0
  have K0 : Keep h0 h0 [a1] := Keep.refl h0 _
  show Goes p e below s ({ frames := 4, cells := 2, slots := 12, locals := 57 } : Room).cells ({ frames := 4, cells := 2, slots := 12, locals := 57 } : Room).slots (Q2n4 Z a1 a2 G1 f h0 n0) s₁ (entryFrame m #[(.ref a1), (.ref a2), (.int (0 : Int32)), (.int (Int32.ofNat 4)), .null] 6)
  refine Goes.step (fun t k => castTop (ef_2n4 m a1 a2) k) ?_
  refine Goes.step (fun _ k => XS.aloadN X0.here hx rfl (hb hby d2_0) rfl rfl k) ?_
  obtain ⟨T1, X1, e1, st1⟩ := initO X0 hx hZ hown (hw _ (List.mem_of_getElem? (i := 13) rfl)) (hw _ (List.mem_of_getElem? (i := 14) rfl)) (hw _ (List.mem_of_getElem? (i := 15) rfl)) e0 (g := (mkF m 1 #[.val (.ref a1), .val (.ref a2), .val (.int (0 : Int32)), .val (.int (Int32.ofNat 4)), .val .null, .unset] [(.ref a1)])) rfl (by rw [hml]; rfl) rfl (hb hby d2_1) (by decide) (W := 0) (by show 2 * 0 + _ ≤ _; exact Nat.le_of_eq rfl) (by decide)
  refine Goes.step st1 ?_
  show Goes p e below s _ _ _ T1 (mkF m 4 #[.val (.ref a1), .val (.ref a2), .val (.int (0 : Int32)), .val (.int (Int32.ofNat 4)), .val .null, .unset] [])
  refine Goes.step (fun _ k => XS.iloadN X1.here hx rfl (hb hby d2_4) rfl k) ?_
  refine Goes.step (fun _ k => XS.ifYes X1.here hx rfl (pc0 := 5) (pc' := 27) rfl (hb hby d2_5) rfl ((if0 _ _).trans (feq (by decide : ¬ ((Int32.ofNat 4) = (0 : Int32)))).2) (by decide) (by decide) k) ?_
  show Goes p e below s _ _ _ T1 (mkF m 27 #[.val (.ref a1), .val (.ref a2), .val (.int (0 : Int32)), .val (.int (Int32.ofNat 4)), .val .null, .unset] [])
  obtain ⟨T2, X2, e2, st2⟩ := getS2 X1 hx hZ hown (host := "") (Or.inl (hw _ (List.mem_of_getElem? (i := 16) rfl))) Via.refl e1 (O2.ext (OL.keep K0 (allS ge_a1 all0)).2) (g := (mkF m 27 #[.val (.ref a1), .val (.ref a2), .val (.int (0 : Int32)), .val (.int (Int32.ofNat 4)), .val .null, .unset] [])) rfl (hb hby d2_27)
  refine Goes.step st2 ?_
  show Goes p e below s _ _ _ T2 (mkF m 30 #[.val (.ref a1), .val (.ref a2), .val (.int (0 : Int32)), .val (.int (Int32.ofNat 4)), .val .null, .unset] [(.int G1)])
  refine Goes.step (fun _ k => XS.ifNo X2.here hx rfl (hb hby d2_30) rfl ((if0 _ _).trans (feq P3).1) k) ?_
  show Goes p e below s _ _ _ T2 (mkF m 33 #[.val (.ref a1), .val (.ref a2), .val (.int (0 : Int32)), .val (.int (Int32.ofNat 4)), .val .null, .unset] [])
  refine Goes.step (fun _ k => XS.aloadN X2.here hx rfl (hb hby d2_33) rfl rfl k) ?_
  refine Goes.step (fun _ k => XS.iloadN X2.here hx rfl (hb hby d2_34) rfl k) ?_
  show Goes p e below s _ _ _ T2 (mkF m 35 #[.val (.ref a1), .val (.ref a2), .val (.int (0 : Int32)), .val (.int (Int32.ofNat 4)), .val .null, .unset] [(.int (0 : Int32)), (.ref a2)])
  refine Goes.step (fun _ k => XS.iloadN X2.here hx rfl (hb hby d2_35) rfl k) ?_
  obtain ⟨v3, T3, h3, L3, X3, e3, Q3, st3⟩ := callX X2 hx hZ (y := (⟨"java/lang/StringUTF16", "compress", "([CII)[B"⟩ : MethodName)) hown (hw _ (List.mem_of_getElem? (i := 17) rfl)) (hw _ (List.mem_of_getElem? (i := 18) rfl)) (hw _ (List.mem_of_getElem? (i := 19) rfl)) (hw _ (List.mem_of_getElem? (i := 20) rfl)) (by decide) (W := 0) (argsL := [(.ref a2), (.int (0 : Int32)), (.int (Int32.ofNat 4))]) (rest := []) (rm4n4 l Z a0 hw [] a2 f h0 n0 Z0 (OL.keep K0 (allS ge_a1 all0)) O5 O6 O7 A_a2_0 rg) (by decide) (by decide) (by decide) (by decide) e2 (g := (mkF m 36 #[.val (.ref a1), .val (.ref a2), .val (.int (0 : Int32)), .val (.int (Int32.ofNat 4)), .val .null, .unset] [(.int (Int32.ofNat 4)), (.int (0 : Int32)), (.ref a2)])) rfl (by rw [hml]; rfl) (lenOf pd_2n4_0 rfl) rfl (by show 2 * 0 + _ ≤ _; exact Nat.le_of_eq rfl) (hb hby d2_36)
  obtain ⟨o3, rfl, NQ3, KQ3, so3, hD3⟩ := Q3
  refine Goes.step st3 ?_
  have E_a1_3 := E_a1_0.keep KQ3
  have F_a1_value_3 := F_a1_value_0.keep KQ3 nin0
  have F_a1_coder_3 := F_a1_coder_0.keep KQ3 nin0
  have A_a2_3 := A_a2_0.keep KQ3 nin0
  have z_3 : n0 ≤ h3.size := Nat.le_trans Z0 KQ3.1
  have K_3 : Keep h0 h3 [a1] := Keep.trans K0 KQ3 all0
  have N_3 := Fr.app N0 NQ3
  have ne_o3_a1 : o3 ≠ a1 := Nat.ne_of_gt (Nat.lt_of_lt_of_le E_a1_0.lt so3)
  have ne_o3_a2 : o3 ≠ a2 := Nat.ne_of_gt (Nat.lt_of_lt_of_le A_a2_0.lt so3)
  have ge_o3 : n0 ≤ o3 := Nat.le_trans Z0 so3
  have sz_o3 : h0.size ≤ o3 := Nat.le_trans K0.1 so3
  show Goes p e below s _ _ _ T3 (mkF m 39 #[.val (.ref a1), .val (.ref a2), .val (.int (0 : Int32)), .val (.int (Int32.ofNat 4)), .val .null, .unset] [(.ref o3)])
  rcases hD3 with ⟨hAl, hall⟩ | hAu
  · have hA0 := hAl
    refine Goes.step (fun _ k => XS.astore X3.here hx rfl (hb hby d2_39) rfl rfl (l' := #[.val (.ref a1), .val (.ref a2), .val (.int (0 : Int32)), .val (.int (Int32.ofNat 4)), .val .null, .val (.ref o3)]) rfl k) ?_
    refine Goes.step (fun _ k => XS.aloadN X3.here hx rfl (hb hby d2_41) rfl rfl k) ?_
    show Goes p e below s _ _ _ T3 (mkF m 42 #[.val (.ref a1), .val (.ref a2), .val (.int (0 : Int32)), .val (.int (Int32.ofNat 4)), .val .null, .val (.ref o3)] [(.ref a1)])
    refine Goes.step (fun _ k => XS.aload X3.here hx rfl (hb hby d2_42) rfl rfl k) ?_
    refine Goes.step (fun _ k => XS.iloadN X3.here hx rfl (hb hby d2_44) rfl k) ?_
    show Goes p e below s _ _ _ T3 (mkF m 45 #[.val (.ref a1), .val (.ref a2), .val (.int (0 : Int32)), .val (.int (Int32.ofNat 4)), .val .null, .val (.ref o3)] [(.int (Int32.ofNat 4)), (.ref o3), (.ref a1)])
    obtain ⟨T4, X4, e4, st4⟩ := own_pure (r := some (.int (0 : Int32))) (fun _ _ _ q => q) (callX X3 hx hZ (y := (⟨"java/lang/StringUTF16", "coderFromArrayLen", "([BI)B"⟩ : MethodName)) hown (hw _ (List.mem_of_getElem? (i := 25) rfl)) (hw _ (List.mem_of_getElem? (i := 26) rfl)) (hw _ (List.mem_of_getElem? (i := 19) rfl)) (hw _ (List.mem_of_getElem? (i := 27) rfl)) (by decide) (W := 1) (argsL := [(.ref o3), (.int (Int32.ofNat 4))]) (rest := [(.ref a1)]) (rm6 l Z a0 hw [] o3 (Int32.ofNat 4) (4) (fun j => own_bb (f j)) (0 : Int32) h3 n0 z_3 hAl (by decide)) (by decide) (by decide) (by decide) (by decide) e3 (g := (mkF m 45 #[.val (.ref a1), .val (.ref a2), .val (.int (0 : Int32)), .val (.int (Int32.ofNat 4)), .val .null, .val (.ref o3)] [(.int (Int32.ofNat 4)), (.ref o3), (.ref a1)])) rfl (by rw [hml]; rfl) (lenOf pd_2n4_1 rfl) rfl (by show 2 * 0 + _ ≤ _; exact Nat.le_of_eq rfl) (hb hby d2_45))
    refine Goes.step st4 ?_
    show Goes p e below s _ _ _ T4 (mkF m 48 #[.val (.ref a1), .val (.ref a2), .val (.int (0 : Int32)), .val (.int (Int32.ofNat 4)), .val .null, .val (.ref o3)] [(.int (0 : Int32)), (.ref a1)])
    obtain ⟨T5, h5, X5, e5, W5, st5⟩ := putF X4 hx hZ hown (host := "") (Or.inl (hw _ (List.mem_of_getElem? (i := 28) rfl))) Via.refl e4 F_a1_coder_3 E_a1_3 (Or.inr ⟨(hw _ (List.mem_of_getElem? (i := 29) rfl)), rfl, hnm⟩) (hw _ (List.mem_of_getElem? (i := 3) rfl)) (ty := .byte) (by decide) rfl rfl (g := (mkF m 48 #[.val (.ref a1), .val (.ref a2), .val (.int (0 : Int32)), .val (.int (Int32.ofNat 4)), .val .null, .val (.ref o3)] [(.int (0 : Int32)), (.ref a1)])) rfl rfl (hb hby d2_48)
    refine Goes.step st5 ?_
    have E_a1_5 := E_a1_3.wr W5
    have F_a1_value_5 := F_a1_value_3.other W5 (Or.inr (slot_ne (Or.inr (hw _ (List.mem_of_getElem? (i := 31) rfl))) (Or.inr (hw _ (List.mem_of_getElem? (i := 29) rfl))) (by decide) (t := (.array .byte)) (t' := .byte) (by decide) (by decide)))
    have A_a2_5 := A_a2_3.other W5 ne_a2_a1
    have hAl_5 := hAl.other W5 ne_o3_a1
    have z_5 : n0 ≤ h5.size := by rw [W5.size]; exact z_3
    have K_5 : Keep h0 h5 [a1] := K_3.wr W5 (Or.inl (List.mem_of_getElem? (i := 0) rfl))
    have N_5 := Fr.snoc X5 N_3 ge_a1
    have F_a1_coder_5 : Fld Z h5 a1 "java/lang/String" "coder" "B" (.int (0 : Int32)) := F_a1_coder_3.same W5
    show Goes p e below s _ _ _ T5 (mkF m 51 #[.val (.ref a1), .val (.ref a2), .val (.int (0 : Int32)), .val (.int (Int32.ofNat 4)), .val .null, .val (.ref o3)] [])
    refine Goes.step (fun _ k => XS.aloadN X5.here hx rfl (hb hby d2_51) rfl rfl k) ?_
    refine Goes.step (fun _ k => XS.aload X5.here hx rfl (hb hby d2_52) rfl rfl k) ?_
    show Goes p e below s _ _ _ T5 (mkF m 54 #[.val (.ref a1), .val (.ref a2), .val (.int (0 : Int32)), .val (.int (Int32.ofNat 4)), .val .null, .val (.ref o3)] [(.ref o3), (.ref a1)])
    obtain ⟨T6, h6, X6, e6, W6, st6⟩ := putF X5 hx hZ hown (host := "") (Or.inl (hw _ (List.mem_of_getElem? (i := 30) rfl))) Via.refl e5 F_a1_value_5 E_a1_5 (Or.inr ⟨(hw _ (List.mem_of_getElem? (i := 31) rfl)), rfl, hnm⟩) (hw _ (List.mem_of_getElem? (i := 3) rfl)) (ty := (.array .byte)) (by decide) rfl rfl (g := (mkF m 54 #[.val (.ref a1), .val (.ref a2), .val (.int (0 : Int32)), .val (.int (Int32.ofNat 4)), .val .null, .val (.ref o3)] [(.ref o3), (.ref a1)])) rfl rfl (hb hby d2_54)
    refine Goes.step st6 ?_
    have E_a1_6 := E_a1_5.wr W6
    have F_a1_coder_6 := F_a1_coder_5.other W6 (Or.inr (slot_ne (Or.inr (hw _ (List.mem_of_getElem? (i := 29) rfl))) (Or.inr (hw _ (List.mem_of_getElem? (i := 31) rfl))) (by decide) (t := .byte) (t' := (.array .byte)) (by decide) (by decide)))
    have A_a2_6 := A_a2_5.other W6 ne_a2_a1
    have hAl_6 := hAl_5.other W6 ne_o3_a1
    have z_6 : n0 ≤ h6.size := by rw [W6.size]; exact z_5
    have K_6 : Keep h0 h6 [a1] := K_5.wr W6 (Or.inl (List.mem_of_getElem? (i := 0) rfl))
    have N_6 := Fr.snoc X6 N_5 ge_a1
    have F_a1_value_6 : Fld Z h6 a1 "java/lang/String" "value" "[B" (.ref o3) := F_a1_value_5.same W6
    show Goes p e below s _ _ _ T6 (mkF m 57 #[.val (.ref a1), .val (.ref a2), .val (.int (0 : Int32)), .val (.int (Int32.ofNat 4)), .val .null, .val (.ref o3)] [])
    exact Goes.outV X6 hx hlk Bd.returns (hb hby d2_57) (by rw [e6]; exact ⟨rfl, N_6, K_6, ⟨E_a1_6, o3, F_a1_value_6, Or.inl ⟨F_a1_coder_6, hAl_6, fun j hj => own_lat (rg j hj).1 (hall j hj)⟩⟩⟩) (by decide) (by decide)
  · have hA0 := hAu
    refine Goes.step (fun _ k => XS.astore X3.here hx rfl (hb hby d2_39) rfl rfl (l' := #[.val (.ref a1), .val (.ref a2), .val (.int (0 : Int32)), .val (.int (Int32.ofNat 4)), .val .null, .val (.ref o3)]) rfl k) ?_
    refine Goes.step (fun _ k => XS.aloadN X3.here hx rfl (hb hby d2_41) rfl rfl k) ?_
    show Goes p e below s _ _ _ T3 (mkF m 42 #[.val (.ref a1), .val (.ref a2), .val (.int (0 : Int32)), .val (.int (Int32.ofNat 4)), .val .null, .val (.ref o3)] [(.ref a1)])
    refine Goes.step (fun _ k => XS.aload X3.here hx rfl (hb hby d2_42) rfl rfl k) ?_
    refine Goes.step (fun _ k => XS.iloadN X3.here hx rfl (hb hby d2_44) rfl k) ?_
    show Goes p e below s _ _ _ T3 (mkF m 45 #[.val (.ref a1), .val (.ref a2), .val (.int (0 : Int32)), .val (.int (Int32.ofNat 4)), .val .null, .val (.ref o3)] [(.int (Int32.ofNat 4)), (.ref o3), (.ref a1)])
    obtain ⟨T7, X7, e7, st7⟩ := own_pure (r := some (.int (1 : Int32))) (fun _ _ _ q => q) (callX X3 hx hZ (y := (⟨"java/lang/StringUTF16", "coderFromArrayLen", "([BI)B"⟩ : MethodName)) hown (hw _ (List.mem_of_getElem? (i := 25) rfl)) (hw _ (List.mem_of_getElem? (i := 26) rfl)) (hw _ (List.mem_of_getElem? (i := 19) rfl)) (hw _ (List.mem_of_getElem? (i := 27) rfl)) (by decide) (W := 1) (argsL := [(.ref o3), (.int (Int32.ofNat 4))]) (rest := [(.ref a1)]) (rm6 l Z a0 hw [] o3 (Int32.ofNat 4) (2 * 4) (own_u f) (1 : Int32) h3 n0 z_3 hAu (by decide)) (by decide) (by decide) (by decide) (by decide) e3 (g := (mkF m 45 #[.val (.ref a1), .val (.ref a2), .val (.int (0 : Int32)), .val (.int (Int32.ofNat 4)), .val .null, .val (.ref o3)] [(.int (Int32.ofNat 4)), (.ref o3), (.ref a1)])) rfl (by rw [hml]; rfl) (lenOf pd_2n4_1 rfl) rfl (by show 2 * 0 + _ ≤ _; exact Nat.le_of_eq rfl) (hb hby d2_45))
    refine Goes.step st7 ?_
    show Goes p e below s _ _ _ T7 (mkF m 48 #[.val (.ref a1), .val (.ref a2), .val (.int (0 : Int32)), .val (.int (Int32.ofNat 4)), .val .null, .val (.ref o3)] [(.int (1 : Int32)), (.ref a1)])
    obtain ⟨T8, h8, X8, e8, W8, st8⟩ := putF X7 hx hZ hown (host := "") (Or.inl (hw _ (List.mem_of_getElem? (i := 28) rfl))) Via.refl e7 F_a1_coder_3 E_a1_3 (Or.inr ⟨(hw _ (List.mem_of_getElem? (i := 29) rfl)), rfl, hnm⟩) (hw _ (List.mem_of_getElem? (i := 3) rfl)) (ty := .byte) (by decide) rfl rfl (g := (mkF m 48 #[.val (.ref a1), .val (.ref a2), .val (.int (0 : Int32)), .val (.int (Int32.ofNat 4)), .val .null, .val (.ref o3)] [(.int (1 : Int32)), (.ref a1)])) rfl rfl (hb hby d2_48)
    refine Goes.step st8 ?_
    have E_a1_8 := E_a1_3.wr W8
    have F_a1_value_8 := F_a1_value_3.other W8 (Or.inr (slot_ne (Or.inr (hw _ (List.mem_of_getElem? (i := 31) rfl))) (Or.inr (hw _ (List.mem_of_getElem? (i := 29) rfl))) (by decide) (t := (.array .byte)) (t' := .byte) (by decide) (by decide)))
    have A_a2_8 := A_a2_3.other W8 ne_a2_a1
    have hAu_8 := hAu.other W8 ne_o3_a1
    have z_8 : n0 ≤ h8.size := by rw [W8.size]; exact z_3
    have K_8 : Keep h0 h8 [a1] := K_3.wr W8 (Or.inl (List.mem_of_getElem? (i := 0) rfl))
    have N_8 := Fr.snoc X8 N_3 ge_a1
    have F_a1_coder_8 : Fld Z h8 a1 "java/lang/String" "coder" "B" (.int (1 : Int32)) := F_a1_coder_3.same W8
    show Goes p e below s _ _ _ T8 (mkF m 51 #[.val (.ref a1), .val (.ref a2), .val (.int (0 : Int32)), .val (.int (Int32.ofNat 4)), .val .null, .val (.ref o3)] [])
    refine Goes.step (fun _ k => XS.aloadN X8.here hx rfl (hb hby d2_51) rfl rfl k) ?_
    refine Goes.step (fun _ k => XS.aload X8.here hx rfl (hb hby d2_52) rfl rfl k) ?_
    show Goes p e below s _ _ _ T8 (mkF m 54 #[.val (.ref a1), .val (.ref a2), .val (.int (0 : Int32)), .val (.int (Int32.ofNat 4)), .val .null, .val (.ref o3)] [(.ref o3), (.ref a1)])
    obtain ⟨T9, h9, X9, e9, W9, st9⟩ := putF X8 hx hZ hown (host := "") (Or.inl (hw _ (List.mem_of_getElem? (i := 30) rfl))) Via.refl e8 F_a1_value_8 E_a1_8 (Or.inr ⟨(hw _ (List.mem_of_getElem? (i := 31) rfl)), rfl, hnm⟩) (hw _ (List.mem_of_getElem? (i := 3) rfl)) (ty := (.array .byte)) (by decide) rfl rfl (g := (mkF m 54 #[.val (.ref a1), .val (.ref a2), .val (.int (0 : Int32)), .val (.int (Int32.ofNat 4)), .val .null, .val (.ref o3)] [(.ref o3), (.ref a1)])) rfl rfl (hb hby d2_54)
    refine Goes.step st9 ?_
    have E_a1_9 := E_a1_8.wr W9
    have F_a1_coder_9 := F_a1_coder_8.other W9 (Or.inr (slot_ne (Or.inr (hw _ (List.mem_of_getElem? (i := 29) rfl))) (Or.inr (hw _ (List.mem_of_getElem? (i := 31) rfl))) (by decide) (t := .byte) (t' := (.array .byte)) (by decide) (by decide)))
    have A_a2_9 := A_a2_8.other W9 ne_a2_a1
    have hAu_9 := hAu_8.other W9 ne_o3_a1
    have z_9 : n0 ≤ h9.size := by rw [W9.size]; exact z_8
    have K_9 : Keep h0 h9 [a1] := K_8.wr W9 (Or.inl (List.mem_of_getElem? (i := 0) rfl))
    have N_9 := Fr.snoc X9 N_8 ge_a1
    have F_a1_value_9 : Fld Z h9 a1 "java/lang/String" "value" "[B" (.ref o3) := F_a1_value_8.same W9
    show Goes p e below s _ _ _ T9 (mkF m 57 #[.val (.ref a1), .val (.ref a2), .val (.int (0 : Int32)), .val (.int (Int32.ofNat 4)), .val .null, .val (.ref o3)] [])
    exact Goes.outV X9 hx hlk Bd.returns (hb hby d2_57) (by rw [e9]; exact ⟨rfl, N_9, K_9, ⟨E_a1_9, o3, F_a1_value_9, Or.inr ⟨F_a1_coder_9, hAu_9, fun j hj => own_g3u rg hj⟩⟩⟩) (by decide) (by decide)
theorem pd_1n4_0 : parseMethodDescriptor "([CIILjava/lang/Void;)V" = some ⟨[(.array .char), .int, .int, (.object "java/lang/Void")], none⟩ := by decide +kernel
theorem ef_1n4 (m : MethodId) (a1 : Addr) (a2 : Addr) : entryFrame m #[(.ref a1), (.ref a2)] 2 = mkF m 0 #[.val (.ref a1), .val (.ref a2)] [] := by first | (simp [entryFrame, mkF, argsToLocals, Value.category]; done) | rfl
def Q1n4 (Z : State) (a1 : Addr) (a2 : Addr) (G1 : Int32) (f : Nat → Int32) (h0 : Heap) (n0 : Nat) (v : Option Value) (h : Heap) (L : List Loc) : Prop := v = none ∧ Fr n0 L ∧ Keep h0 h [a1] ∧ Str Z h a1 4 f
set_option maxRecDepth 65536 in
set_option maxHeartbeats 40000000 in
theorem rm1n4 (l : Launch) (Z : State) (a0 : Array Value) (hw : ∀ d ∈ tables_1, d.before a0 Z = true) (ws : List Jvm.Cond) (a1 : Addr) (a2 : Addr) (G1 : Int32) (f : Nat → Int32) (h0 : Heap) (n0 : Nat) (Z0 : n0 ≤ h0.size) (O2 : Sta Z Z.heap "java/lang/String" "COMPACT_STRINGS" "Z" (.int G1)) (P3 : ¬ (G1 = (0 : Int32))) (OL : Old Z n0 h0) (O5 : Sta Z Z.heap "java/lang/StringUTF16" "$assertionsDisabled" "Z" (.int (1 : Int32))) (O6 : Sta Z Z.heap "java/lang/StringUTF16" "HI_BYTE_SHIFT" "I" (.int (0 : Int32))) (O7 : Sta Z Z.heap "java/lang/StringUTF16" "LO_BYTE_SHIFT" "I" (.int (8 : Int32))) (E_a1_0 : Exa Z h0 a1 "java/lang/String") (F_a1_value_0 : Fld Z h0 a1 "java/lang/String" "value" "[B" .null) (F_a1_coder_0 : Fld Z h0 a1 "java/lang/String" "coder" "B" (.int (0 : Int32))) (ge_a1 : n0 ≤ a1) (A_a2_0 : Ari Z h0 a2 .char 4 f) (rg : own_rg 4 f) (ne_a2_a1 : a2 ≠ a1) :
    MetFree l (⟨"java/lang/String", "<init>", "([C)V"⟩ : MethodName) (head1 (Jvm.Cond.code (⟨"java/lang/String", "<init>", "([C)V"⟩ : MethodName) jdk_42_method_3_code 2 none :: ws) ({ frames := 5, cells := 2, slots := 12, locals := 74 } : Room)) (fun a U => a = #[(.ref a1), (.ref a2)] ∧ Z.Warmed39 U.vm ∧ U.heap = h0) (fun _ _ _ _ _ => True) (fun _ U o U' => ∃ v L, o = .returned v ∧ Q1n4 Z a1 a2 G1 f h0 n0 v U'.heap L ∧ FrameEnd U o U' L ({ frames := 5, cells := 2, slots := 12, locals := 74 } : Room).cells ({ frames := 5, cells := 2, slots := 12, locals := 74 } : Room).slots) := by
  refine MetFree.of_bodySF (plainFor_of_name pn_1) hisR ?_
  intro p e s m args below meth c s₁ Bd hml0 hP hK
  obtain ⟨rfl, hZ, hh⟩ := hP
  have hx := Bd.exec
  have hby := Bd.bytes
  have hlk := Bd.notSynchronized
  have hml : c.maxLocals = 2 := hml0
  have hown : s.vm.findClass "java/lang/String" = some m.cls := findClass_of_methodNamed Bd.named
  have hnm := (name_of_methodNamed Bd.named Bd.method).1
  have X0 : Stand p l e ({ frames := 5, cells := 2, slots := 12, locals := 74 } : Room) s m #[(.ref a1), (.ref a2)] below meth c s₁ [] 0 0 := Stand.of_body Bd
  have e0 : s₁.heap = h0 := by rw [← hh, Bd.state]; rfl
  have N0 := Fr.nil n0
  have K0 : Keep h0 h0 [a1] := Keep.refl h0 _
  show Goes p e below s ({ frames := 5, cells := 2, slots := 12, locals := 74 } : Room).cells ({ frames := 5, cells := 2, slots := 12, locals := 74 } : Room).slots (Q1n4 Z a1 a2 G1 f h0 n0) s₁ (entryFrame m #[(.ref a1), (.ref a2)] 2)
  refine Goes.step (fun t k => castTop (ef_1n4 m a1 a2) k) ?_
  refine Goes.step (fun _ k => XS.aloadN X0.here hx rfl (hb hby d1_0) rfl rfl k) ?_
  refine Goes.step (fun _ k => XS.aloadN X0.here hx rfl (hb hby d1_1) rfl rfl k) ?_
  show Goes p e below s _ _ _ s₁ (mkF m 2 #[.val (.ref a1), .val (.ref a2)] [(.ref a2), (.ref a1)])
  refine Goes.step (fun _ k => XS.iconst X0.here hx rfl (hb hby d1_2) k) ?_
  refine Goes.step (fun _ k => XS.aloadN X0.here hx rfl (hb hby d1_3) rfl rfl k) ?_
  show Goes p e below s _ _ _ s₁ (mkF m 4 #[.val (.ref a1), .val (.ref a2)] [(.ref a2), (.int (0 : Int32)), (.ref a2), (.ref a1)])
  refine Goes.step (fun _ k => rdL X0 hx hZ e0 A_a2_0 (g := (mkF m 4 #[.val (.ref a1), .val (.ref a2)] [(.ref a2), (.int (0 : Int32)), (.ref a2), (.ref a1)])) rfl rfl (hb hby d1_4) _ k) ?_
  show Goes p e below s _ _ _ s₁ (mkF m 5 #[.val (.ref a1), .val (.ref a2)] [(.int (Int32.ofNat 4)), (.int (0 : Int32)), (.ref a2), (.ref a1)])
  refine Goes.step (fun _ k => XS.aconstNull X0.here hx rfl (hb hby d1_5) k) ?_
  obtain ⟨v1, T1, h1, L1, X1, e1, Q1, st1⟩ := callXI X0 hx hZ (b := a1) (y := (⟨"java/lang/String", "<init>", "([CIILjava/lang/Void;)V"⟩ : MethodName)) hown rfl (hw _ (List.mem_of_getElem? (i := 9) rfl)) (hw _ (List.mem_of_getElem? (i := 10) rfl)) (hw _ (List.mem_of_getElem? (i := 12) rfl)) (hw _ (List.mem_of_getElem? (i := 4) rfl)) (by decide) (W := 0) (argsL := [(.ref a2), (.int (0 : Int32)), (.int (Int32.ofNat 4)), .null]) (rest := []) (rm2n4 l Z a0 hw [] a1 a2 G1 f h0 n0 Z0 O2 P3 (OL.keep K0 (allS ge_a1 all0)) O5 O6 O7 E_a1_0 F_a1_value_0 F_a1_coder_0 ge_a1 A_a2_0 rg ne_a2_a1) (by decide) (by decide) (by decide) (by decide) e0 (g := (mkF m 6 #[.val (.ref a1), .val (.ref a2)] [.null, (.int (Int32.ofNat 4)), (.int (0 : Int32)), (.ref a2), (.ref a1)])) rfl (by rw [hml]; rfl) (lenOf pd_1n4_0 rfl) rfl (by show 2 * 0 + _ ≤ _; exact Nat.le_of_eq rfl) (hb hby d1_6)
  obtain ⟨rfl, NQ1, KQ1, hT1⟩ := Q1
  refine Goes.step st1 ?_
  have E_a1_1 := E_a1_0.keep KQ1
  have A_a2_1 := A_a2_0.keep KQ1 (ninS ne_a2_a1 nin0)
  have z_1 : n0 ≤ h1.size := Nat.le_trans Z0 KQ1.1
  have K_1 : Keep h0 h1 [a1] := Keep.trans K0 KQ1 (allS (Or.inl (List.mem_of_getElem? (i := 0) rfl)) all0)
  have N_1 := Fr.app N0 NQ1
  show Goes p e below s _ _ _ T1 (mkF m 9 #[.val (.ref a1), .val (.ref a2)] [])
  exact Goes.outV X1 hx hlk Bd.returns (hb hby d1_9) (by rw [e1]; exact ⟨rfl, N_1, K_1, hT1⟩) (by decide) (by decide)
theorem d10_0 : decode jdk_42_method_152_code 0 = .ok (.getstatic 38, 3) := by decide +kernel
theorem d10_3 : decode jdk_42_method_152_code 3 = .ok (.ifCond .eq 10, 3) := by decide +kernel
theorem d10_6 : decode jdk_42_method_152_code 6 = .ok (.aload_n 0, 1) := by decide +kernel
theorem d10_7 : decode jdk_42_method_152_code 7 = .ok (.getfield 15, 3) := by decide +kernel
theorem d10_10 : decode jdk_42_method_152_code 10 = .ok (.goto 4, 3) := by decide +kernel
theorem d10_14 : decode jdk_42_method_152_code 14 = .ok (.ireturn, 1) := by decide +kernel
theorem pn_10 : plainName "java/lang/String" = true := by first | (simp [plainName, overriddenIn]; done) | decide +kernel
theorem ef_10L (m : MethodId) (a1 : Addr) : entryFrame m #[(.ref a1)] 1 = mkF m 0 #[.val (.ref a1)] [] := by first | (simp [entryFrame, mkF, argsToLocals, Value.category]; done) | rfl
def Q10L (Z : State) (a1 : Addr) (G1 : Int32) (h0 : Heap) (n0 : Nat) (v : Option Value) (h : Heap) (L : List Loc) : Prop := PQ h0 (some (.int (0 : Int32))) v h L
set_option maxRecDepth 65536 in
set_option maxHeartbeats 40000000 in
theorem rm10L (l : Launch) (Z : State) (a0 : Array Value) (hw : ∀ d ∈ tables_1, d.before a0 Z = true) (ws : List Jvm.Cond) (a1 : Addr) (G1 : Int32) (h0 : Heap) (n0 : Nat) (Z0 : n0 ≤ h0.size) (O2 : Sta Z Z.heap "java/lang/String" "COMPACT_STRINGS" "Z" (.int G1)) (P3 : ¬ (G1 = (0 : Int32))) (OL : Old Z n0 h0) (F_a1_coder_0 : Fld Z h0 a1 "java/lang/String" "coder" "B" (.int (0 : Int32))) :
    MetFree l (⟨"java/lang/String", "coder", "()B"⟩ : MethodName) (head1 (Jvm.Cond.code (⟨"java/lang/String", "coder", "()B"⟩ : MethodName) jdk_42_method_152_code 1 (some .byte) :: ws) ({ frames := 0, cells := 0, slots := 0, locals := 0 } : Room)) (fun a U => a = #[(.ref a1)] ∧ Z.Warmed39 U.vm ∧ U.heap = h0) (fun _ _ _ _ _ => True) (fun _ U o U' => ∃ v L, o = .returned v ∧ Q10L Z a1 G1 h0 n0 v U'.heap L ∧ FrameEnd U o U' L ({ frames := 0, cells := 0, slots := 0, locals := 0 } : Room).cells ({ frames := 0, cells := 0, slots := 0, locals := 0 } : Room).slots) := by
  refine MetFree.of_bodySF (plainFor_of_name pn_10) hisR ?_
  intro p e s m args below meth c s₁ Bd hml0 hP hK
  obtain ⟨rfl, hZ, hh⟩ := hP
  have hx := Bd.exec
  have hby := Bd.bytes
  have hlk := Bd.notSynchronized
  have hml : c.maxLocals = 1 := hml0
  have hown : s.vm.findClass "java/lang/String" = some m.cls := findClass_of_methodNamed Bd.named
  have hnm := (name_of_methodNamed Bd.named Bd.method).1
  have X0 : Stand p l e ({ frames := 0, cells := 0, slots := 0, locals := 0 } : Room) s m #[(.ref a1)] below meth c s₁ [] 0 0 := Stand.of_body Bd
  have e0 : s₁.heap = h0 := by rw [← hh, Bd.state]; rfl
  have N0 := Fr.nil n0
  have K0 : Keep h0 h0 [] := Keep.refl h0 _
  show Goes p e below s ({ frames := 0, cells := 0, slots := 0, locals := 0 } : Room).cells ({ frames := 0, cells := 0, slots := 0, locals := 0 } : Room).slots (Q10L Z a1 G1 h0 n0) s₁ (entryFrame m #[(.ref a1)] 1)
  refine Goes.step (fun t k => castTop (ef_10L m a1) k) ?_
  obtain ⟨T1, X1, e1, st1⟩ := getS2 X0 hx hZ hown (host := "") (Or.inl (hw _ (List.mem_of_getElem? (i := 16) rfl))) Via.refl e0 (O2.ext (OL.keep K0 all0).2) (g := (mkF m 0 #[.val (.ref a1)] [])) rfl (hb hby d10_0)
  refine Goes.step st1 ?_
  show Goes p e below s _ _ _ T1 (mkF m 3 #[.val (.ref a1)] [(.int G1)])
  refine Goes.step (fun _ k => XS.ifNo X1.here hx rfl (hb hby d10_3) rfl ((if0 _ _).trans (feq P3).1) k) ?_
  show Goes p e below s _ _ _ T1 (mkF m 6 #[.val (.ref a1)] [])
  refine Goes.step (fun _ k => XS.aloadN X1.here hx rfl (hb hby d10_6) rfl rfl k) ?_
  obtain ⟨T2, X2, e2, st2⟩ := getF X1 hx hZ hown (host := "") (Or.inl (hw _ (List.mem_of_getElem? (i := 28) rfl))) Via.refl e1 F_a1_coder_0 (g := (mkF m 7 #[.val (.ref a1)] [(.ref a1)])) rfl rfl (hb hby d10_7)
  refine Goes.step st2 ?_
  show Goes p e below s _ _ _ T2 (mkF m 10 #[.val (.ref a1)] [(.int (0 : Int32))])
  refine Goes.step (fun _ k => XS.goto X2.here hx rfl (pc0 := 10) (pc' := 14) rfl (hb hby d10_10) (by decide) (by decide) k) ?_
  show Goes p e below s _ _ _ T2 (mkF m 14 #[.val (.ref a1)] [(.int (0 : Int32))])
  exact Goes.outN X2 hx hlk (t := .byte) Bd.returns (by simp) (hb hby d10_14) (by rw [e2]; exact ⟨rfl, rfl, rfl⟩) (by decide) (by decide)
theorem d12_0 : decode jdk_42_method_154_code 0 = .ok (.getstatic 38, 3) := by decide +kernel
theorem d12_3 : decode jdk_42_method_154_code 3 = .ok (.ifCond .eq 14, 3) := by decide +kernel
theorem d12_6 : decode jdk_42_method_154_code 6 = .ok (.aload_n 0, 1) := by decide +kernel
theorem d12_7 : decode jdk_42_method_154_code 7 = .ok (.getfield 15, 3) := by decide +kernel
theorem d12_10 : decode jdk_42_method_154_code 10 = .ok (.ifCond .ne 7, 3) := by decide +kernel
theorem d12_13 : decode jdk_42_method_154_code 13 = .ok (.iconst 1, 1) := by decide +kernel
theorem d12_14 : decode jdk_42_method_154_code 14 = .ok (.goto 4, 3) := by decide +kernel
theorem d12_18 : decode jdk_42_method_154_code 18 = .ok (.ireturn, 1) := by decide +kernel
theorem pn_12 : plainName "java/lang/String" = true := by first | (simp [plainName, overriddenIn]; done) | decide +kernel
theorem ef_12L (m : MethodId) (a1 : Addr) : entryFrame m #[(.ref a1)] 1 = mkF m 0 #[.val (.ref a1)] [] := by first | (simp [entryFrame, mkF, argsToLocals, Value.category]; done) | rfl
def Q12L (Z : State) (a1 : Addr) (G1 : Int32) (h0 : Heap) (n0 : Nat) (v : Option Value) (h : Heap) (L : List Loc) : Prop := PQ h0 (some (.int (1 : Int32))) v h L
set_option maxRecDepth 65536 in
set_option maxHeartbeats 40000000 in
theorem rm12L (l : Launch) (Z : State) (a0 : Array Value) (hw : ∀ d ∈ tables_1, d.before a0 Z = true) (ws : List Jvm.Cond) (a1 : Addr) (G1 : Int32) (h0 : Heap) (n0 : Nat) (Z0 : n0 ≤ h0.size) (O2 : Sta Z Z.heap "java/lang/String" "COMPACT_STRINGS" "Z" (.int G1)) (P3 : ¬ (G1 = (0 : Int32))) (OL : Old Z n0 h0) (F_a1_coder_0 : Fld Z h0 a1 "java/lang/String" "coder" "B" (.int (0 : Int32))) :
    MetFree l (⟨"java/lang/String", "isLatin1", "()Z"⟩ : MethodName) (head1 (Jvm.Cond.code (⟨"java/lang/String", "isLatin1", "()Z"⟩ : MethodName) jdk_42_method_154_code 1 (some .boolean) :: ws) ({ frames := 0, cells := 0, slots := 0, locals := 0 } : Room)) (fun a U => a = #[(.ref a1)] ∧ Z.Warmed39 U.vm ∧ U.heap = h0) (fun _ _ _ _ _ => True) (fun _ U o U' => ∃ v L, o = .returned v ∧ Q12L Z a1 G1 h0 n0 v U'.heap L ∧ FrameEnd U o U' L ({ frames := 0, cells := 0, slots := 0, locals := 0 } : Room).cells ({ frames := 0, cells := 0, slots := 0, locals := 0 } : Room).slots) := by
  refine MetFree.of_bodySF (plainFor_of_name pn_12) hisR ?_
  intro p e s m args below meth c s₁ Bd hml0 hP hK
  obtain ⟨rfl, hZ, hh⟩ := hP
  have hx := Bd.exec
  have hby := Bd.bytes
  have hlk := Bd.notSynchronized
  have hml : c.maxLocals = 1 := hml0
  have hown : s.vm.findClass "java/lang/String" = some m.cls := findClass_of_methodNamed Bd.named
  have hnm := (name_of_methodNamed Bd.named Bd.method).1
  have X0 : Stand p l e ({ frames := 0, cells := 0, slots := 0, locals := 0 } : Room) s m #[(.ref a1)] below meth c s₁ [] 0 0 := Stand.of_body Bd
  have e0 : s₁.heap = h0 := by rw [← hh, Bd.state]; rfl
  have N0 := Fr.nil n0
  have K0 : Keep h0 h0 [] := Keep.refl h0 _
  show Goes p e below s ({ frames := 0, cells := 0, slots := 0, locals := 0 } : Room).cells ({ frames := 0, cells := 0, slots := 0, locals := 0 } : Room).slots (Q12L Z a1 G1 h0 n0) s₁ (entryFrame m #[(.ref a1)] 1)
  refine Goes.step (fun t k => castTop (ef_12L m a1) k) ?_
  obtain ⟨T1, X1, e1, st1⟩ := getS2 X0 hx hZ hown (host := "") (Or.inl (hw _ (List.mem_of_getElem? (i := 16) rfl))) Via.refl e0 (O2.ext (OL.keep K0 all0).2) (g := (mkF m 0 #[.val (.ref a1)] [])) rfl (hb hby d12_0)
  refine Goes.step st1 ?_
  show Goes p e below s _ _ _ T1 (mkF m 3 #[.val (.ref a1)] [(.int G1)])
  refine Goes.step (fun _ k => XS.ifNo X1.here hx rfl (hb hby d12_3) rfl ((if0 _ _).trans (feq P3).1) k) ?_
  show Goes p e below s _ _ _ T1 (mkF m 6 #[.val (.ref a1)] [])
  refine Goes.step (fun _ k => XS.aloadN X1.here hx rfl (hb hby d12_6) rfl rfl k) ?_
  obtain ⟨T2, X2, e2, st2⟩ := getF X1 hx hZ hown (host := "") (Or.inl (hw _ (List.mem_of_getElem? (i := 28) rfl))) Via.refl e1 F_a1_coder_0 (g := (mkF m 7 #[.val (.ref a1)] [(.ref a1)])) rfl rfl (hb hby d12_7)
  refine Goes.step st2 ?_
  show Goes p e below s _ _ _ T2 (mkF m 10 #[.val (.ref a1)] [(.int (0 : Int32))])
  refine Goes.step (fun _ k => XS.ifNo X2.here hx rfl (hb hby d12_10) rfl ((if0 _ _).trans (teq (by decide : (0 : Int32) = (0 : Int32))).2) k) ?_
  show Goes p e below s _ _ _ T2 (mkF m 13 #[.val (.ref a1)] [])
  refine Goes.step (fun _ k => XS.iconst X2.here hx rfl (hb hby d12_13) k) ?_
  refine Goes.step (fun _ k => XS.goto X2.here hx rfl (pc0 := 14) (pc' := 18) rfl (hb hby d12_14) (by decide) (by decide) k) ?_
  show Goes p e below s _ _ _ T2 (mkF m 18 #[.val (.ref a1)] [(.int (1 : Int32))])
  exact Goes.outN X2 hx hlk (t := .boolean) Bd.returns (by simp) (hb hby d12_18) (by rw [e2]; exact ⟨rfl, rfl, rfl⟩) (by decide) (by decide)
theorem d9_0 : decode jdk_42_method_54_code 0 = .ok (.aload_n 0, 1) := by decide +kernel
theorem d9_1 : decode jdk_42_method_54_code 1 = .ok (.getfield 9, 3) := by decide +kernel
theorem d9_4 : decode jdk_42_method_54_code 4 = .ok (.arraylength, 1) := by decide +kernel
theorem d9_5 : decode jdk_42_method_54_code 5 = .ok (.aload_n 0, 1) := by decide +kernel
theorem d9_6 : decode jdk_42_method_54_code 6 = .ok (.invokevirtual 335, 3) := by decide +kernel
theorem d9_9 : decode jdk_42_method_54_code 9 = .ok (.ishr, 1) := by decide +kernel
theorem d9_10 : decode jdk_42_method_54_code 10 = .ok (.ireturn, 1) := by decide +kernel
theorem pn_9 : plainName "java/lang/String" = true := by first | (simp [plainName, overriddenIn]; done) | decide +kernel
theorem pd_9L_0 : parseMethodDescriptor "()B" = some ⟨[], some .byte⟩ := by decide +kernel
theorem ef_9L (m : MethodId) (a1 : Addr) : entryFrame m #[(.ref a1)] 1 = mkF m 0 #[.val (.ref a1)] [] := by first | (simp [entryFrame, mkF, argsToLocals, Value.category]; done) | rfl
def Q9L (Z : State) (a1 : Addr) (G1 : Int32) (av : Addr) (n : Nat) (f : Nat → Int32) (h0 : Heap) (n0 : Nat) (v : Option Value) (h : Heap) (L : List Loc) : Prop := PQ h0 (some (.int (Int32.ofNat n))) v h L
set_option maxRecDepth 65536 in
set_option maxHeartbeats 40000000 in
theorem rm9L (l : Launch) (Z : State) (a0 : Array Value) (hw : ∀ d ∈ tables_1, d.before a0 Z = true) (ws : List Jvm.Cond) (a1 : Addr) (G1 : Int32) (av : Addr) (n : Nat) (f : Nat → Int32) (h0 : Heap) (n0 : Nat) (Z0 : n0 ≤ h0.size) (O2 : Sta Z Z.heap "java/lang/String" "COMPACT_STRINGS" "Z" (.int G1)) (P3 : ¬ (G1 = (0 : Int32))) (OL : Old Z n0 h0) (E_a1_0 : Exa Z h0 a1 "java/lang/String") (F_a1_value_0 : Fld Z h0 a1 "java/lang/String" "value" "[B" (.ref av)) (F_a1_coder_0 : Fld Z h0 a1 "java/lang/String" "coder" "B" (.int (0 : Int32))) (A_av_0 : Ari Z h0 av .byte (n) f) (hn4 : n ≤ 4) :
    MetFree l (⟨"java/lang/String", "length", "()I"⟩ : MethodName) (head1 (Jvm.Cond.code (⟨"java/lang/String", "length", "()I"⟩ : MethodName) jdk_42_method_54_code 1 (some .int) :: ws) ({ frames := 1, cells := 0, slots := 0, locals := 13 } : Room)) (fun a U => a = #[(.ref a1)] ∧ Z.Warmed39 U.vm ∧ U.heap = h0) (fun _ _ _ _ _ => True) (fun _ U o U' => ∃ v L, o = .returned v ∧ Q9L Z a1 G1 av n f h0 n0 v U'.heap L ∧ FrameEnd U o U' L ({ frames := 1, cells := 0, slots := 0, locals := 13 } : Room).cells ({ frames := 1, cells := 0, slots := 0, locals := 13 } : Room).slots) := by
  refine MetFree.of_bodySF (plainFor_of_name pn_9) hisR ?_
  intro p e s m args below meth c s₁ Bd hml0 hP hK
  obtain ⟨rfl, hZ, hh⟩ := hP
  have hx := Bd.exec
  have hby := Bd.bytes
  have hlk := Bd.notSynchronized
  have hml : c.maxLocals = 1 := hml0
  have hown : s.vm.findClass "java/lang/String" = some m.cls := findClass_of_methodNamed Bd.named
  have hnm := (name_of_methodNamed Bd.named Bd.method).1
  have X0 : Stand p l e ({ frames := 1, cells := 0, slots := 0, locals := 13 } : Room) s m #[(.ref a1)] below meth c s₁ [] 0 0 := Stand.of_body Bd
  have e0 : s₁.heap = h0 := by rw [← hh, Bd.state]; rfl
  have N0 := Fr.nil n0
  have K0 : Keep h0 h0 [] := Keep.refl h0 _
  show Goes p e below s ({ frames := 1, cells := 0, slots := 0, locals := 13 } : Room).cells ({ frames := 1, cells := 0, slots := 0, locals := 13 } : Room).slots (Q9L Z a1 G1 av n f h0 n0) s₁ (entryFrame m #[(.ref a1)] 1)
  refine Goes.step (fun t k => castTop (ef_9L m a1) k) ?_
  refine Goes.step (fun _ k => XS.aloadN X0.here hx rfl (hb hby d9_0) rfl rfl k) ?_
  obtain ⟨T1, X1, e1, st1⟩ := getF X0 hx hZ hown (host := "") (Or.inl (hw _ (List.mem_of_getElem? (i := 30) rfl))) Via.refl e0 F_a1_value_0 (g := (mkF m 1 #[.val (.ref a1)] [(.ref a1)])) rfl rfl (hb hby d9_1)
  refine Goes.step st1 ?_
  show Goes p e below s _ _ _ T1 (mkF m 4 #[.val (.ref a1)] [(.ref av)])
  refine Goes.step (fun _ k => rdL X1 hx hZ e1 A_av_0 (g := (mkF m 4 #[.val (.ref a1)] [(.ref av)])) rfl rfl (hb hby d9_4) _ k) ?_
  show Goes p e below s _ _ _ T1 (mkF m 5 #[.val (.ref a1)] [(.int (Int32.ofNat n))])
  refine Goes.step (fun _ k => XS.aloadN X1.here hx rfl (hb hby d9_5) rfl rfl k) ?_
  obtain ⟨T2, X2, e2, st2⟩ := own_pure (r := some (.int (0 : Int32))) (fun _ _ _ q => q) (callXV X1 hx hZ (C := "java/lang/String") (b := a1) (y := (⟨"java/lang/String", "coder", "()B"⟩ : MethodName)) (z := (⟨"java/lang/String", "coder", "()B"⟩ : MethodName)) hown (hw _ (List.mem_of_getElem? (i := 45) rfl)) (hw _ (List.mem_of_getElem? (i := 46) rfl)) (hw _ (List.mem_of_getElem? (i := 48) rfl)) (hw _ (List.mem_of_getElem? (i := 47) rfl)) (hw _ (List.mem_of_getElem? (i := 49) rfl)) (hw _ (List.mem_of_getElem? (i := 4) rfl)) (notFace_of_selects (args := #[]) (mvT hZ (hw _ (List.mem_of_getElem? (i := 48) rfl)))) (by decide) (W := 1) (argsL := []) (rest := [(.int (Int32.ofNat n))]) (rm10L l Z a0 hw [] a1 G1 h0 n0 Z0 O2 P3 (OL.keep K0 all0) F_a1_coder_0) (by decide) (by decide) (by decide) (by decide) e1 E_a1_0 (g := (mkF m 6 #[.val (.ref a1)] [(.ref a1), (.int (Int32.ofNat n))])) rfl (by rw [hml]; rfl) (lenOf pd_9L_0 rfl) rfl (by show 2 * 0 + _ ≤ _; exact Nat.le_of_eq rfl) (hb hby d9_6))
  refine Goes.step st2 ?_
  show Goes p e below s _ _ _ T2 (mkF m 9 #[.val (.ref a1)] [(.int (0 : Int32)), (.int (Int32.ofNat n))])
  refine Goes.step (fun _ k => XS.ishr X2.here hx rfl (hb hby d9_9) rfl k) ?_
  show Goes p e below s _ _ _ T2 (mkF m 10 #[.val (.ref a1)] [(.int ((Int32.ofNat n) >>> ((0 : Int32) &&& 31)))])
  exact Goes.outI X2 hx hlk Bd.returns (hb hby d9_10) (by rw [e2]; exact ⟨by rw [own_shr0], rfl, rfl⟩) (by decide) (by decide)
theorem ef_10U (m : MethodId) (a1 : Addr) : entryFrame m #[(.ref a1)] 1 = mkF m 0 #[.val (.ref a1)] [] := by first | (simp [entryFrame, mkF, argsToLocals, Value.category]; done) | rfl
def Q10U (Z : State) (a1 : Addr) (G1 : Int32) (h0 : Heap) (n0 : Nat) (v : Option Value) (h : Heap) (L : List Loc) : Prop := PQ h0 (some (.int (1 : Int32))) v h L
set_option maxRecDepth 65536 in
set_option maxHeartbeats 40000000 in
theorem rm10U (l : Launch) (Z : State) (a0 : Array Value) (hw : ∀ d ∈ tables_1, d.before a0 Z = true) (ws : List Jvm.Cond) (a1 : Addr) (G1 : Int32) (h0 : Heap) (n0 : Nat) (Z0 : n0 ≤ h0.size) (O2 : Sta Z Z.heap "java/lang/String" "COMPACT_STRINGS" "Z" (.int G1)) (P3 : ¬ (G1 = (0 : Int32))) (OL : Old Z n0 h0) (F_a1_coder_0 : Fld Z h0 a1 "java/lang/String" "coder" "B" (.int (1 : Int32))) :
    MetFree l (⟨"java/lang/String", "coder", "()B"⟩ : MethodName) (head1 (Jvm.Cond.code (⟨"java/lang/String", "coder", "()B"⟩ : MethodName) jdk_42_method_152_code 1 (some .byte) :: ws) ({ frames := 0, cells := 0, slots := 0, locals := 0 } : Room)) (fun a U => a = #[(.ref a1)] ∧ Z.Warmed39 U.vm ∧ U.heap = h0) (fun _ _ _ _ _ => True) (fun _ U o U' => ∃ v L, o = .returned v ∧ Q10U Z a1 G1 h0 n0 v U'.heap L ∧ FrameEnd U o U' L ({ frames := 0, cells := 0, slots := 0, locals := 0 } : Room).cells ({ frames := 0, cells := 0, slots := 0, locals := 0 } : Room).slots) := by
  refine MetFree.of_bodySF (plainFor_of_name pn_10) hisR ?_
  intro p e s m args below meth c s₁ Bd hml0 hP hK
  obtain ⟨rfl, hZ, hh⟩ := hP
  have hx := Bd.exec
  have hby := Bd.bytes
  have hlk := Bd.notSynchronized
  have hml : c.maxLocals = 1 := hml0
  have hown : s.vm.findClass "java/lang/String" = some m.cls := findClass_of_methodNamed Bd.named
  have hnm := (name_of_methodNamed Bd.named Bd.method).1
  have X0 : Stand p l e ({ frames := 0, cells := 0, slots := 0, locals := 0 } : Room) s m #[(.ref a1)] below meth c s₁ [] 0 0 := Stand.of_body Bd
  have e0 : s₁.heap = h0 := by rw [← hh, Bd.state]; rfl
  have N0 := Fr.nil n0
  have K0 : Keep h0 h0 [] := Keep.refl h0 _
  show Goes p e below s ({ frames := 0, cells := 0, slots := 0, locals := 0 } : Room).cells ({ frames := 0, cells := 0, slots := 0, locals := 0 } : Room).slots (Q10U Z a1 G1 h0 n0) s₁ (entryFrame m #[(.ref a1)] 1)
  refine Goes.step (fun t k => castTop (ef_10U m a1) k) ?_
  obtain ⟨T1, X1, e1, st1⟩ := getS2 X0 hx hZ hown (host := "") (Or.inl (hw _ (List.mem_of_getElem? (i := 16) rfl))) Via.refl e0 (O2.ext (OL.keep K0 all0).2) (g := (mkF m 0 #[.val (.ref a1)] [])) rfl (hb hby d10_0)
  refine Goes.step st1 ?_
  show Goes p e below s _ _ _ T1 (mkF m 3 #[.val (.ref a1)] [(.int G1)])
  refine Goes.step (fun _ k => XS.ifNo X1.here hx rfl (hb hby d10_3) rfl ((if0 _ _).trans (feq P3).1) k) ?_
  show Goes p e below s _ _ _ T1 (mkF m 6 #[.val (.ref a1)] [])
  refine Goes.step (fun _ k => XS.aloadN X1.here hx rfl (hb hby d10_6) rfl rfl k) ?_
  obtain ⟨T2, X2, e2, st2⟩ := getF X1 hx hZ hown (host := "") (Or.inl (hw _ (List.mem_of_getElem? (i := 28) rfl))) Via.refl e1 F_a1_coder_0 (g := (mkF m 7 #[.val (.ref a1)] [(.ref a1)])) rfl rfl (hb hby d10_7)
  refine Goes.step st2 ?_
  show Goes p e below s _ _ _ T2 (mkF m 10 #[.val (.ref a1)] [(.int (1 : Int32))])
  refine Goes.step (fun _ k => XS.goto X2.here hx rfl (pc0 := 10) (pc' := 14) rfl (hb hby d10_10) (by decide) (by decide) k) ?_
  show Goes p e below s _ _ _ T2 (mkF m 14 #[.val (.ref a1)] [(.int (1 : Int32))])
  exact Goes.outN X2 hx hlk (t := .byte) Bd.returns (by simp) (hb hby d10_14) (by rw [e2]; exact ⟨rfl, rfl, rfl⟩) (by decide) (by decide)
theorem d12_17 : decode jdk_42_method_154_code 17 = .ok (.iconst 0, 1) := by decide +kernel
theorem ef_12U (m : MethodId) (a1 : Addr) : entryFrame m #[(.ref a1)] 1 = mkF m 0 #[.val (.ref a1)] [] := by first | (simp [entryFrame, mkF, argsToLocals, Value.category]; done) | rfl
def Q12U (Z : State) (a1 : Addr) (G1 : Int32) (h0 : Heap) (n0 : Nat) (v : Option Value) (h : Heap) (L : List Loc) : Prop := PQ h0 (some (.int (0 : Int32))) v h L
set_option maxRecDepth 65536 in
set_option maxHeartbeats 40000000 in
theorem rm12U (l : Launch) (Z : State) (a0 : Array Value) (hw : ∀ d ∈ tables_1, d.before a0 Z = true) (ws : List Jvm.Cond) (a1 : Addr) (G1 : Int32) (h0 : Heap) (n0 : Nat) (Z0 : n0 ≤ h0.size) (O2 : Sta Z Z.heap "java/lang/String" "COMPACT_STRINGS" "Z" (.int G1)) (P3 : ¬ (G1 = (0 : Int32))) (OL : Old Z n0 h0) (F_a1_coder_0 : Fld Z h0 a1 "java/lang/String" "coder" "B" (.int (1 : Int32))) :
    MetFree l (⟨"java/lang/String", "isLatin1", "()Z"⟩ : MethodName) (head1 (Jvm.Cond.code (⟨"java/lang/String", "isLatin1", "()Z"⟩ : MethodName) jdk_42_method_154_code 1 (some .boolean) :: ws) ({ frames := 0, cells := 0, slots := 0, locals := 0 } : Room)) (fun a U => a = #[(.ref a1)] ∧ Z.Warmed39 U.vm ∧ U.heap = h0) (fun _ _ _ _ _ => True) (fun _ U o U' => ∃ v L, o = .returned v ∧ Q12U Z a1 G1 h0 n0 v U'.heap L ∧ FrameEnd U o U' L ({ frames := 0, cells := 0, slots := 0, locals := 0 } : Room).cells ({ frames := 0, cells := 0, slots := 0, locals := 0 } : Room).slots) := by
  refine MetFree.of_bodySF (plainFor_of_name pn_12) hisR ?_
  intro p e s m args below meth c s₁ Bd hml0 hP hK
  obtain ⟨rfl, hZ, hh⟩ := hP
  have hx := Bd.exec
  have hby := Bd.bytes
  have hlk := Bd.notSynchronized
  have hml : c.maxLocals = 1 := hml0
  have hown : s.vm.findClass "java/lang/String" = some m.cls := findClass_of_methodNamed Bd.named
  have hnm := (name_of_methodNamed Bd.named Bd.method).1
  have X0 : Stand p l e ({ frames := 0, cells := 0, slots := 0, locals := 0 } : Room) s m #[(.ref a1)] below meth c s₁ [] 0 0 := Stand.of_body Bd
  have e0 : s₁.heap = h0 := by rw [← hh, Bd.state]; rfl
  have N0 := Fr.nil n0
  have K0 : Keep h0 h0 [] := Keep.refl h0 _
  show Goes p e below s ({ frames := 0, cells := 0, slots := 0, locals := 0 } : Room).cells ({ frames := 0, cells := 0, slots := 0, locals := 0 } : Room).slots (Q12U Z a1 G1 h0 n0) s₁ (entryFrame m #[(.ref a1)] 1)
  refine Goes.step (fun t k => castTop (ef_12U m a1) k) ?_
  obtain ⟨T1, X1, e1, st1⟩ := getS2 X0 hx hZ hown (host := "") (Or.inl (hw _ (List.mem_of_getElem? (i := 16) rfl))) Via.refl e0 (O2.ext (OL.keep K0 all0).2) (g := (mkF m 0 #[.val (.ref a1)] [])) rfl (hb hby d12_0)
  refine Goes.step st1 ?_
  show Goes p e below s _ _ _ T1 (mkF m 3 #[.val (.ref a1)] [(.int G1)])
  refine Goes.step (fun _ k => XS.ifNo X1.here hx rfl (hb hby d12_3) rfl ((if0 _ _).trans (feq P3).1) k) ?_
  show Goes p e below s _ _ _ T1 (mkF m 6 #[.val (.ref a1)] [])
  refine Goes.step (fun _ k => XS.aloadN X1.here hx rfl (hb hby d12_6) rfl rfl k) ?_
  obtain ⟨T2, X2, e2, st2⟩ := getF X1 hx hZ hown (host := "") (Or.inl (hw _ (List.mem_of_getElem? (i := 28) rfl))) Via.refl e1 F_a1_coder_0 (g := (mkF m 7 #[.val (.ref a1)] [(.ref a1)])) rfl rfl (hb hby d12_7)
  refine Goes.step st2 ?_
  show Goes p e below s _ _ _ T2 (mkF m 10 #[.val (.ref a1)] [(.int (1 : Int32))])
  refine Goes.step (fun _ k => XS.ifYes X2.here hx rfl (pc0 := 10) (pc' := 17) rfl (hb hby d12_10) rfl ((if0 _ _).trans (feq (by decide : ¬ ((1 : Int32) = (0 : Int32)))).2) (by decide) (by decide) k) ?_
  show Goes p e below s _ _ _ T2 (mkF m 17 #[.val (.ref a1)] [])
  refine Goes.step (fun _ k => XS.iconst X2.here hx rfl (hb hby d12_17) k) ?_
  show Goes p e below s _ _ _ T2 (mkF m 18 #[.val (.ref a1)] [(.int (0 : Int32))])
  exact Goes.outN X2 hx hlk (t := .boolean) Bd.returns (by simp) (hb hby d12_18) (by rw [e2]; exact ⟨rfl, rfl, rfl⟩) (by decide) (by decide)
theorem pd_9U_0 : parseMethodDescriptor "()B" = some ⟨[], some .byte⟩ := by decide +kernel
theorem ef_9U (m : MethodId) (a1 : Addr) : entryFrame m #[(.ref a1)] 1 = mkF m 0 #[.val (.ref a1)] [] := by first | (simp [entryFrame, mkF, argsToLocals, Value.category]; done) | rfl
def Q9U (Z : State) (a1 : Addr) (G1 : Int32) (av : Addr) (n : Nat) (f : Nat → Int32) (h0 : Heap) (n0 : Nat) (v : Option Value) (h : Heap) (L : List Loc) : Prop := PQ h0 (some (.int (Int32.ofNat n))) v h L
set_option maxRecDepth 65536 in
set_option maxHeartbeats 40000000 in
theorem rm9U (l : Launch) (Z : State) (a0 : Array Value) (hw : ∀ d ∈ tables_1, d.before a0 Z = true) (ws : List Jvm.Cond) (a1 : Addr) (G1 : Int32) (av : Addr) (n : Nat) (f : Nat → Int32) (h0 : Heap) (n0 : Nat) (Z0 : n0 ≤ h0.size) (O2 : Sta Z Z.heap "java/lang/String" "COMPACT_STRINGS" "Z" (.int G1)) (P3 : ¬ (G1 = (0 : Int32))) (OL : Old Z n0 h0) (E_a1_0 : Exa Z h0 a1 "java/lang/String") (F_a1_value_0 : Fld Z h0 a1 "java/lang/String" "value" "[B" (.ref av)) (F_a1_coder_0 : Fld Z h0 a1 "java/lang/String" "coder" "B" (.int (1 : Int32))) (A_av_0 : Ari Z h0 av .byte (2 * n) f) (hn4 : n ≤ 4) :
    MetFree l (⟨"java/lang/String", "length", "()I"⟩ : MethodName) (head1 (Jvm.Cond.code (⟨"java/lang/String", "length", "()I"⟩ : MethodName) jdk_42_method_54_code 1 (some .int) :: ws) ({ frames := 1, cells := 0, slots := 0, locals := 13 } : Room)) (fun a U => a = #[(.ref a1)] ∧ Z.Warmed39 U.vm ∧ U.heap = h0) (fun _ _ _ _ _ => True) (fun _ U o U' => ∃ v L, o = .returned v ∧ Q9U Z a1 G1 av n f h0 n0 v U'.heap L ∧ FrameEnd U o U' L ({ frames := 1, cells := 0, slots := 0, locals := 13 } : Room).cells ({ frames := 1, cells := 0, slots := 0, locals := 13 } : Room).slots) := by
  refine MetFree.of_bodySF (plainFor_of_name pn_9) hisR ?_
  intro p e s m args below meth c s₁ Bd hml0 hP hK
  obtain ⟨rfl, hZ, hh⟩ := hP
  have hx := Bd.exec
  have hby := Bd.bytes
  have hlk := Bd.notSynchronized
  have hml : c.maxLocals = 1 := hml0
  have hown : s.vm.findClass "java/lang/String" = some m.cls := findClass_of_methodNamed Bd.named
  have hnm := (name_of_methodNamed Bd.named Bd.method).1
  have X0 : Stand p l e ({ frames := 1, cells := 0, slots := 0, locals := 13 } : Room) s m #[(.ref a1)] below meth c s₁ [] 0 0 := Stand.of_body Bd
  have e0 : s₁.heap = h0 := by rw [← hh, Bd.state]; rfl
  have N0 := Fr.nil n0
  have K0 : Keep h0 h0 [] := Keep.refl h0 _
  show Goes p e below s ({ frames := 1, cells := 0, slots := 0, locals := 13 } : Room).cells ({ frames := 1, cells := 0, slots := 0, locals := 13 } : Room).slots (Q9U Z a1 G1 av n f h0 n0) s₁ (entryFrame m #[(.ref a1)] 1)
  refine Goes.step (fun t k => castTop (ef_9U m a1) k) ?_
  refine Goes.step (fun _ k => XS.aloadN X0.here hx rfl (hb hby d9_0) rfl rfl k) ?_
  obtain ⟨T1, X1, e1, st1⟩ := getF X0 hx hZ hown (host := "") (Or.inl (hw _ (List.mem_of_getElem? (i := 30) rfl))) Via.refl e0 F_a1_value_0 (g := (mkF m 1 #[.val (.ref a1)] [(.ref a1)])) rfl rfl (hb hby d9_1)
  refine Goes.step st1 ?_
  show Goes p e below s _ _ _ T1 (mkF m 4 #[.val (.ref a1)] [(.ref av)])
  refine Goes.step (fun _ k => rdL X1 hx hZ e1 A_av_0 (g := (mkF m 4 #[.val (.ref a1)] [(.ref av)])) rfl rfl (hb hby d9_4) _ k) ?_
  show Goes p e below s _ _ _ T1 (mkF m 5 #[.val (.ref a1)] [(.int (Int32.ofNat (2 * n)))])
  refine Goes.step (fun _ k => XS.aloadN X1.here hx rfl (hb hby d9_5) rfl rfl k) ?_
  obtain ⟨T2, X2, e2, st2⟩ := own_pure (r := some (.int (1 : Int32))) (fun _ _ _ q => q) (callXV X1 hx hZ (C := "java/lang/String") (b := a1) (y := (⟨"java/lang/String", "coder", "()B"⟩ : MethodName)) (z := (⟨"java/lang/String", "coder", "()B"⟩ : MethodName)) hown (hw _ (List.mem_of_getElem? (i := 45) rfl)) (hw _ (List.mem_of_getElem? (i := 46) rfl)) (hw _ (List.mem_of_getElem? (i := 48) rfl)) (hw _ (List.mem_of_getElem? (i := 47) rfl)) (hw _ (List.mem_of_getElem? (i := 49) rfl)) (hw _ (List.mem_of_getElem? (i := 4) rfl)) (notFace_of_selects (args := #[]) (mvT hZ (hw _ (List.mem_of_getElem? (i := 48) rfl)))) (by decide) (W := 1) (argsL := []) (rest := [(.int (Int32.ofNat (2 * n)))]) (rm10U l Z a0 hw [] a1 G1 h0 n0 Z0 O2 P3 (OL.keep K0 all0) F_a1_coder_0) (by decide) (by decide) (by decide) (by decide) e1 E_a1_0 (g := (mkF m 6 #[.val (.ref a1)] [(.ref a1), (.int (Int32.ofNat (2 * n)))])) rfl (by rw [hml]; rfl) (lenOf pd_9U_0 rfl) rfl (by show 2 * 0 + _ ≤ _; exact Nat.le_of_eq rfl) (hb hby d9_6))
  refine Goes.step st2 ?_
  show Goes p e below s _ _ _ T2 (mkF m 9 #[.val (.ref a1)] [(.int (1 : Int32)), (.int (Int32.ofNat (2 * n)))])
  refine Goes.step (fun _ k => XS.ishr X2.here hx rfl (hb hby d9_9) rfl k) ?_
  show Goes p e below s _ _ _ T2 (mkF m 10 #[.val (.ref a1)] [(.int ((Int32.ofNat (2 * n)) >>> ((1 : Int32) &&& 31)))])
  exact Goes.outI X2 hx hlk Bd.returns (hb hby d9_10) (by rw [e2]; exact ⟨by rw [own_len2 n (by omega)], rfl, rfl⟩) (by decide) (by decide)
theorem d11_0 : decode jdk_42_method_56_code 0 = .ok (.aload_n 0, 1) := by decide +kernel
theorem d11_1 : decode jdk_42_method_56_code 1 = .ok (.invokevirtual 492, 3) := by decide +kernel
theorem d11_4 : decode jdk_42_method_56_code 4 = .ok (.ifCond .eq 12, 3) := by decide +kernel
theorem d11_16 : decode jdk_42_method_56_code 16 = .ok (.aload_n 0, 1) := by decide +kernel
theorem d11_17 : decode jdk_42_method_56_code 17 = .ok (.getfield 9, 3) := by decide +kernel
theorem d11_20 : decode jdk_42_method_56_code 20 = .ok (.iload_n 1, 1) := by decide +kernel
theorem d11_21 : decode jdk_42_method_56_code 21 = .ok (.invokestatic 498, 3) := by decide +kernel
theorem d11_24 : decode jdk_42_method_56_code 24 = .ok (.ireturn, 1) := by decide +kernel
theorem pn_11 : plainName "java/lang/String" = true := by first | (simp [plainName, overriddenIn]; done) | decide +kernel
theorem pd_11U_0 : parseMethodDescriptor "()Z" = some ⟨[], some .boolean⟩ := by decide +kernel
theorem pd_11U_1 : parseMethodDescriptor "([BI)C" = some ⟨[(.array .byte), .int], some .char⟩ := by decide +kernel
theorem ef_11U (m : MethodId) (a1 : Addr) (p2 : Int32) : entryFrame m #[(.ref a1), (.int p2)] 2 = mkF m 0 #[.val (.ref a1), .val (.int p2)] [] := by first | (simp [entryFrame, mkF, argsToLocals, Value.category]; done) | rfl
def Q11U (Z : State) (a1 : Addr) (p2 : Int32) (G1 : Int32) (oF : Option Addr) (av : Addr) (n : Nat) (f : Nat → Int32) (i : Nat) (cv : Int32) (h0 : Heap) (n0 : Nat) (v : Option Value) (h : Heap) (L : List Loc) : Prop := PQ h0 (some (.int cv)) v h L
set_option maxRecDepth 65536 in
set_option maxHeartbeats 40000000 in
theorem rm11U (l : Launch) (Z : State) (a0 : Array Value) (hw : ∀ d ∈ tables_1, d.before a0 Z = true) (ws : List Jvm.Cond) (a1 : Addr) (p2 : Int32) (G1 : Int32) (oF : Option Addr) (av : Addr) (n : Nat) (f : Nat → Int32) (i : Nat) (cv : Int32) (h0 : Heap) (n0 : Nat) (Z0 : n0 ≤ h0.size) (O2 : Sta Z Z.heap "java/lang/String" "COMPACT_STRINGS" "Z" (.int G1)) (P3 : ¬ (G1 = (0 : Int32))) (OL : Old Z n0 h0) (O4 : Sta Z Z.heap "jdk/internal/util/Preconditions" "SIOOBE_FORMATTER" "Ljava/util/function/BiFunction;" (ov oF)) (O5 : Sta Z Z.heap "java/lang/StringUTF16" "$assertionsDisabled" "Z" (.int (1 : Int32))) (O6 : Sta Z Z.heap "java/lang/StringUTF16" "HI_BYTE_SHIFT" "I" (.int (0 : Int32))) (O7 : Sta Z Z.heap "java/lang/StringUTF16" "LO_BYTE_SHIFT" "I" (.int (8 : Int32))) (E_a1_0 : Exa Z h0 a1 "java/lang/String") (F_a1_value_0 : Fld Z h0 a1 "java/lang/String" "value" "[B" (.ref av)) (F_a1_coder_0 : Fld Z h0 a1 "java/lang/String" "coder" "B" (.int (1 : Int32))) (A_av_0 : Ari Z h0 av .byte (2 * n) f) (hi : p2 = Int32.ofNat i) (hin : i < n) (hn4 : n ≤ 4) (hcv : (own_g3 (f (2 * i)) (f (2 * i + 1))) = cv) :
    MetFree l (⟨"java/lang/String", "charAt", "(I)C"⟩ : MethodName) (head1 (Jvm.Cond.code (⟨"java/lang/String", "charAt", "(I)C"⟩ : MethodName) jdk_42_method_56_code 2 (some .char) :: ws) ({ frames := 4, cells := 0, slots := 0, locals := 53 } : Room)) (fun a U => a = #[(.ref a1), (.int p2)] ∧ Z.Warmed39 U.vm ∧ U.heap = h0) (fun _ _ _ _ _ => True) (fun _ U o U' => ∃ v L, o = .returned v ∧ Q11U Z a1 p2 G1 oF av n f i cv h0 n0 v U'.heap L ∧ FrameEnd U o U' L ({ frames := 4, cells := 0, slots := 0, locals := 53 } : Room).cells ({ frames := 4, cells := 0, slots := 0, locals := 53 } : Room).slots) := by
  refine MetFree.of_bodySF (plainFor_of_name pn_11) hisR ?_
  intro p e s m args below meth c s₁ Bd hml0 hP hK
  obtain ⟨rfl, hZ, hh⟩ := hP
  have hx := Bd.exec
  have hby := Bd.bytes
  have hlk := Bd.notSynchronized
  have hml : c.maxLocals = 2 := hml0
  have hown : s.vm.findClass "java/lang/String" = some m.cls := findClass_of_methodNamed Bd.named
  have hnm := (name_of_methodNamed Bd.named Bd.method).1
  have X0 : Stand p l e ({ frames := 4, cells := 0, slots := 0, locals := 53 } : Room) s m #[(.ref a1), (.int p2)] below meth c s₁ [] 0 0 := Stand.of_body Bd
  have e0 : s₁.heap = h0 := by rw [← hh, Bd.state]; rfl
  have N0 := Fr.nil n0
  have K0 : Keep h0 h0 [] := Keep.refl h0 _
  show Goes p e below s ({ frames := 4, cells := 0, slots := 0, locals := 53 } : Room).cells ({ frames := 4, cells := 0, slots := 0, locals := 53 } : Room).slots (Q11U Z a1 p2 G1 oF av n f i cv h0 n0) s₁ (entryFrame m #[(.ref a1), (.int p2)] 2)
  refine Goes.step (fun t k => castTop (ef_11U m a1 p2) k) ?_
  refine Goes.step (fun _ k => XS.aloadN X0.here hx rfl (hb hby d11_0) rfl rfl k) ?_
  obtain ⟨T1, X1, e1, st1⟩ := own_pure (r := some (.int (0 : Int32))) (fun _ _ _ q => q) (callXV X0 hx hZ (C := "java/lang/String") (b := a1) (y := (⟨"java/lang/String", "isLatin1", "()Z"⟩ : MethodName)) (z := (⟨"java/lang/String", "isLatin1", "()Z"⟩ : MethodName)) hown (hw _ (List.mem_of_getElem? (i := 55) rfl)) (hw _ (List.mem_of_getElem? (i := 56) rfl)) (hw _ (List.mem_of_getElem? (i := 58) rfl)) (hw _ (List.mem_of_getElem? (i := 57) rfl)) (hw _ (List.mem_of_getElem? (i := 59) rfl)) (hw _ (List.mem_of_getElem? (i := 4) rfl)) (notFace_of_selects (args := #[]) (mvT hZ (hw _ (List.mem_of_getElem? (i := 58) rfl)))) (by decide) (W := 0) (argsL := []) (rest := []) (rm12U l Z a0 hw [] a1 G1 h0 n0 Z0 O2 P3 (OL.keep K0 all0) F_a1_coder_0) (by decide) (by decide) (by decide) (by decide) e0 E_a1_0 (g := (mkF m 1 #[.val (.ref a1), .val (.int p2)] [(.ref a1)])) rfl (by rw [hml]; rfl) (lenOf pd_11U_0 rfl) rfl (by show 2 * 0 + _ ≤ _; exact Nat.le_of_eq rfl) (hb hby d11_1))
  refine Goes.step st1 ?_
  show Goes p e below s _ _ _ T1 (mkF m 4 #[.val (.ref a1), .val (.int p2)] [(.int (0 : Int32))])
  refine Goes.step (fun _ k => XS.ifYes X1.here hx rfl (pc0 := 4) (pc' := 16) rfl (hb hby d11_4) rfl ((if0 _ _).trans (teq (by decide : (0 : Int32) = (0 : Int32))).1) (by decide) (by decide) k) ?_
  show Goes p e below s _ _ _ T1 (mkF m 16 #[.val (.ref a1), .val (.int p2)] [])
  refine Goes.step (fun _ k => XS.aloadN X1.here hx rfl (hb hby d11_16) rfl rfl k) ?_
  obtain ⟨T2, X2, e2, st2⟩ := getF X1 hx hZ hown (host := "") (Or.inl (hw _ (List.mem_of_getElem? (i := 30) rfl))) Via.refl e1 F_a1_value_0 (g := (mkF m 17 #[.val (.ref a1), .val (.int p2)] [(.ref a1)])) rfl rfl (hb hby d11_17)
  refine Goes.step st2 ?_
  show Goes p e below s _ _ _ T2 (mkF m 20 #[.val (.ref a1), .val (.int p2)] [(.ref av)])
  refine Goes.step (fun _ k => XS.iloadN X2.here hx rfl (hb hby d11_20) rfl k) ?_
  obtain ⟨T3, X3, e3, st3⟩ := own_pure (r := some (.int (nar .char (own_g1 (f (2 * i)) (f (2 * i + 1)))))) (fun _ _ _ q => q) (callX X2 hx hZ (y := (⟨"java/lang/StringUTF16", "charAt", "([BI)C"⟩ : MethodName)) hown (hw _ (List.mem_of_getElem? (i := 94) rfl)) (hw _ (List.mem_of_getElem? (i := 95) rfl)) (hw _ (List.mem_of_getElem? (i := 19) rfl)) (hw _ (List.mem_of_getElem? (i := 96) rfl)) (by decide) (W := 0) (argsL := [(.ref av), (.int p2)]) (rest := []) (rm22 l Z a0 hw [] av p2 oF i n f h0 n0 Z0 (OL.keep K0 all0) O4 O5 O6 O7 A_av_0 hi hin hn4) (by decide) (by decide) (by decide) (by decide) e2 (g := (mkF m 21 #[.val (.ref a1), .val (.int p2)] [(.int p2), (.ref av)])) rfl (by rw [hml]; rfl) (lenOf pd_11U_1 rfl) rfl (by show 2 * 0 + _ ≤ _; exact Nat.le_of_eq rfl) (hb hby d11_21))
  refine Goes.step st3 ?_
  show Goes p e below s _ _ _ T3 (mkF m 24 #[.val (.ref a1), .val (.int p2)] [(.int (nar .char (own_g1 (f (2 * i)) (f (2 * i + 1)))))])
  exact Goes.outN X3 hx hlk (t := .char) Bd.returns (by simp) (hb hby d11_24) (by rw [e3]; exact ⟨by rw [← hcv]; rfl, rfl, rfl⟩) (by decide) (by decide)
theorem d11_7 : decode jdk_42_method_56_code 7 = .ok (.aload_n 0, 1) := by decide +kernel
theorem d11_8 : decode jdk_42_method_56_code 8 = .ok (.getfield 9, 3) := by decide +kernel
theorem d11_11 : decode jdk_42_method_56_code 11 = .ok (.iload_n 1, 1) := by decide +kernel
theorem d11_12 : decode jdk_42_method_56_code 12 = .ok (.invokestatic 495, 3) := by decide +kernel
theorem d11_15 : decode jdk_42_method_56_code 15 = .ok (.ireturn, 1) := by decide +kernel
theorem pd_11L_0 : parseMethodDescriptor "()Z" = some ⟨[], some .boolean⟩ := by decide +kernel
theorem pd_11L_1 : parseMethodDescriptor "([BI)C" = some ⟨[(.array .byte), .int], some .char⟩ := by decide +kernel
theorem ef_11L (m : MethodId) (a1 : Addr) (p2 : Int32) : entryFrame m #[(.ref a1), (.int p2)] 2 = mkF m 0 #[.val (.ref a1), .val (.int p2)] [] := by first | (simp [entryFrame, mkF, argsToLocals, Value.category]; done) | rfl
def Q11L (Z : State) (a1 : Addr) (p2 : Int32) (G1 : Int32) (oF : Option Addr) (av : Addr) (n : Nat) (f : Nat → Int32) (i : Nat) (cv : Int32) (h0 : Heap) (n0 : Nat) (v : Option Value) (h : Heap) (L : List Loc) : Prop := PQ h0 (some (.int cv)) v h L
set_option maxRecDepth 65536 in
set_option maxHeartbeats 40000000 in
theorem rm11L (l : Launch) (Z : State) (a0 : Array Value) (hw : ∀ d ∈ tables_1, d.before a0 Z = true) (ws : List Jvm.Cond) (a1 : Addr) (p2 : Int32) (G1 : Int32) (oF : Option Addr) (av : Addr) (n : Nat) (f : Nat → Int32) (i : Nat) (cv : Int32) (h0 : Heap) (n0 : Nat) (Z0 : n0 ≤ h0.size) (O2 : Sta Z Z.heap "java/lang/String" "COMPACT_STRINGS" "Z" (.int G1)) (P3 : ¬ (G1 = (0 : Int32))) (OL : Old Z n0 h0) (O4 : Sta Z Z.heap "jdk/internal/util/Preconditions" "SIOOBE_FORMATTER" "Ljava/util/function/BiFunction;" (ov oF)) (O5 : Sta Z Z.heap "java/lang/StringUTF16" "$assertionsDisabled" "Z" (.int (1 : Int32))) (O6 : Sta Z Z.heap "java/lang/StringUTF16" "HI_BYTE_SHIFT" "I" (.int (0 : Int32))) (O7 : Sta Z Z.heap "java/lang/StringUTF16" "LO_BYTE_SHIFT" "I" (.int (8 : Int32))) (E_a1_0 : Exa Z h0 a1 "java/lang/String") (F_a1_value_0 : Fld Z h0 a1 "java/lang/String" "value" "[B" (.ref av)) (F_a1_coder_0 : Fld Z h0 a1 "java/lang/String" "coder" "B" (.int (0 : Int32))) (A_av_0 : Ari Z h0 av .byte (n) f) (hi : p2 = Int32.ofNat i) (hin : i < n) (hn4 : n ≤ 4) (hcv : (own_ch (f i)) = cv) :
    MetFree l (⟨"java/lang/String", "charAt", "(I)C"⟩ : MethodName) (head1 (Jvm.Cond.code (⟨"java/lang/String", "charAt", "(I)C"⟩ : MethodName) jdk_42_method_56_code 2 (some .char) :: ws) ({ frames := 4, cells := 0, slots := 0, locals := 53 } : Room)) (fun a U => a = #[(.ref a1), (.int p2)] ∧ Z.Warmed39 U.vm ∧ U.heap = h0) (fun _ _ _ _ _ => True) (fun _ U o U' => ∃ v L, o = .returned v ∧ Q11L Z a1 p2 G1 oF av n f i cv h0 n0 v U'.heap L ∧ FrameEnd U o U' L ({ frames := 4, cells := 0, slots := 0, locals := 53 } : Room).cells ({ frames := 4, cells := 0, slots := 0, locals := 53 } : Room).slots) := by
  refine MetFree.of_bodySF (plainFor_of_name pn_11) hisR ?_
  intro p e s m args below meth c s₁ Bd hml0 hP hK
  obtain ⟨rfl, hZ, hh⟩ := hP
  have hx := Bd.exec
  have hby := Bd.bytes
  have hlk := Bd.notSynchronized
  have hml : c.maxLocals = 2 := hml0
  have hown : s.vm.findClass "java/lang/String" = some m.cls := findClass_of_methodNamed Bd.named
  have hnm := (name_of_methodNamed Bd.named Bd.method).1
  have X0 : Stand p l e ({ frames := 4, cells := 0, slots := 0, locals := 53 } : Room) s m #[(.ref a1), (.int p2)] below meth c s₁ [] 0 0 := Stand.of_body Bd
  have e0 : s₁.heap = h0 := by rw [← hh, Bd.state]; rfl
  have N0 := Fr.nil n0
  have K0 : Keep h0 h0 [] := Keep.refl h0 _
  show Goes p e below s ({ frames := 4, cells := 0, slots := 0, locals := 53 } : Room).cells ({ frames := 4, cells := 0, slots := 0, locals := 53 } : Room).slots (Q11L Z a1 p2 G1 oF av n f i cv h0 n0) s₁ (entryFrame m #[(.ref a1), (.int p2)] 2)
  refine Goes.step (fun t k => castTop (ef_11L m a1 p2) k) ?_
  refine Goes.step (fun _ k => XS.aloadN X0.here hx rfl (hb hby d11_0) rfl rfl k) ?_
  obtain ⟨T1, X1, e1, st1⟩ := own_pure (r := some (.int (1 : Int32))) (fun _ _ _ q => q) (callXV X0 hx hZ (C := "java/lang/String") (b := a1) (y := (⟨"java/lang/String", "isLatin1", "()Z"⟩ : MethodName)) (z := (⟨"java/lang/String", "isLatin1", "()Z"⟩ : MethodName)) hown (hw _ (List.mem_of_getElem? (i := 55) rfl)) (hw _ (List.mem_of_getElem? (i := 56) rfl)) (hw _ (List.mem_of_getElem? (i := 58) rfl)) (hw _ (List.mem_of_getElem? (i := 57) rfl)) (hw _ (List.mem_of_getElem? (i := 59) rfl)) (hw _ (List.mem_of_getElem? (i := 4) rfl)) (notFace_of_selects (args := #[]) (mvT hZ (hw _ (List.mem_of_getElem? (i := 58) rfl)))) (by decide) (W := 0) (argsL := []) (rest := []) (rm12L l Z a0 hw [] a1 G1 h0 n0 Z0 O2 P3 (OL.keep K0 all0) F_a1_coder_0) (by decide) (by decide) (by decide) (by decide) e0 E_a1_0 (g := (mkF m 1 #[.val (.ref a1), .val (.int p2)] [(.ref a1)])) rfl (by rw [hml]; rfl) (lenOf pd_11L_0 rfl) rfl (by show 2 * 0 + _ ≤ _; exact Nat.le_of_eq rfl) (hb hby d11_1))
  refine Goes.step st1 ?_
  show Goes p e below s _ _ _ T1 (mkF m 4 #[.val (.ref a1), .val (.int p2)] [(.int (1 : Int32))])
  refine Goes.step (fun _ k => XS.ifNo X1.here hx rfl (hb hby d11_4) rfl ((if0 _ _).trans (feq (by decide : ¬ ((1 : Int32) = (0 : Int32)))).1) k) ?_
  show Goes p e below s _ _ _ T1 (mkF m 7 #[.val (.ref a1), .val (.int p2)] [])
  refine Goes.step (fun _ k => XS.aloadN X1.here hx rfl (hb hby d11_7) rfl rfl k) ?_
  obtain ⟨T2, X2, e2, st2⟩ := getF X1 hx hZ hown (host := "") (Or.inl (hw _ (List.mem_of_getElem? (i := 30) rfl))) Via.refl e1 F_a1_value_0 (g := (mkF m 8 #[.val (.ref a1), .val (.int p2)] [(.ref a1)])) rfl rfl (hb hby d11_8)
  refine Goes.step st2 ?_
  show Goes p e below s _ _ _ T2 (mkF m 11 #[.val (.ref a1), .val (.int p2)] [(.ref av)])
  refine Goes.step (fun _ k => XS.iloadN X2.here hx rfl (hb hby d11_11) rfl k) ?_
  obtain ⟨T3, X3, e3, st3⟩ := own_pure (r := some (.int (own_c1 (f i)))) (fun _ _ _ q => q) (callX X2 hx hZ (y := (⟨"java/lang/StringLatin1", "charAt", "([BI)C"⟩ : MethodName)) hown (hw _ (List.mem_of_getElem? (i := 60) rfl)) (hw _ (List.mem_of_getElem? (i := 61) rfl)) (hw _ (List.mem_of_getElem? (i := 62) rfl)) (hw _ (List.mem_of_getElem? (i := 63) rfl)) (by decide) (W := 0) (argsL := [(.ref av), (.int p2)]) (rest := []) (rm13 l Z a0 hw [] av p2 oF i n f h0 n0 Z0 (OL.keep K0 all0) O4 A_av_0 hi hin) (by decide) (by decide) (by decide) (by decide) e2 (g := (mkF m 12 #[.val (.ref a1), .val (.int p2)] [(.int p2), (.ref av)])) rfl (by rw [hml]; rfl) (lenOf pd_11L_1 rfl) rfl (by show 2 * 0 + _ ≤ _; exact Nat.le_of_eq rfl) (hb hby d11_12))
  refine Goes.step st3 ?_
  show Goes p e below s _ _ _ T3 (mkF m 15 #[.val (.ref a1), .val (.int p2)] [(.int (own_c1 (f i)))])
  exact Goes.outN X3 hx hlk (t := .char) Bd.returns (by simp) (hb hby d11_15) (by rw [e3]; exact ⟨by rw [← hcv]; rfl, rfl, rfl⟩) (by decide) (by decide)
theorem rm9s (l : Launch) (Z : State) (a0 : Array Value) (hw : ∀ d ∈ tables_1, d.before a0 Z = true) (ws : List Jvm.Cond) (a1 : Addr)  (G1 : Int32) (n : Nat) (f : Nat → Int32) (h0 : Heap) (n0 : Nat) (Z0 : n0 ≤ h0.size) (O2 : Sta Z Z.heap "java/lang/String" "COMPACT_STRINGS" "Z" (.int G1)) (P3 : ¬ (G1 = (0 : Int32))) (OL : Old Z n0 h0) (hs : Str Z h0 a1 n f) (hn4 : n ≤ 4) :
    MetFree l (⟨"java/lang/String", "length", "()I"⟩ : MethodName) (head1 (Jvm.Cond.code (⟨"java/lang/String", "length", "()I"⟩ : MethodName) jdk_42_method_54_code 1 (some .int) :: ws) ({ frames := 1, cells := 0, slots := 0, locals := 13 } : Room)) (fun a U => a = #[(.ref a1)] ∧ Z.Warmed39 U.vm ∧ U.heap = h0) (fun _ _ _ _ _ => True) (fun _ U o U' => ∃ v L, o = .returned v ∧ PQ h0 (some (.int (Int32.ofNat n))) v U'.heap L ∧ FrameEnd U o U' L ({ frames := 1, cells := 0, slots := 0, locals := 13 } : Room).cells ({ frames := 1, cells := 0, slots := 0, locals := 13 } : Room).slots) := by
  obtain ⟨E, av, Fv, ⟨Fc, A, q⟩ | ⟨Fc, A, q⟩⟩ := hs
  · exact rm9L l Z a0 hw ws a1 G1 av n (fun j => own_bb (f j)) h0 n0 Z0 O2 P3 OL E Fv Fc A hn4
  · exact rm9U l Z a0 hw ws a1 G1 av n (own_u f) h0 n0 Z0 O2 P3 OL E Fv Fc A hn4
theorem rm11s (l : Launch) (Z : State) (a0 : Array Value) (hw : ∀ d ∈ tables_1, d.before a0 Z = true) (ws : List Jvm.Cond) (a1 : Addr) (p2 : Int32) (G1 : Int32) (oF : Option Addr) (n : Nat) (f : Nat → Int32) (i : Nat) (h0 : Heap) (n0 : Nat) (Z0 : n0 ≤ h0.size) (O2 : Sta Z Z.heap "java/lang/String" "COMPACT_STRINGS" "Z" (.int G1)) (P3 : ¬ (G1 = (0 : Int32))) (OL : Old Z n0 h0) (O4 : Sta Z Z.heap "jdk/internal/util/Preconditions" "SIOOBE_FORMATTER" "Ljava/util/function/BiFunction;" (ov oF)) (O5 : Sta Z Z.heap "java/lang/StringUTF16" "$assertionsDisabled" "Z" (.int (1 : Int32))) (O6 : Sta Z Z.heap "java/lang/StringUTF16" "HI_BYTE_SHIFT" "I" (.int (0 : Int32))) (O7 : Sta Z Z.heap "java/lang/StringUTF16" "LO_BYTE_SHIFT" "I" (.int (8 : Int32))) (hs : Str Z h0 a1 n f) (hn4 : n ≤ 4) (hi : p2 = Int32.ofNat i) (hin : i < n) :
    MetFree l (⟨"java/lang/String", "charAt", "(I)C"⟩ : MethodName) (head1 (Jvm.Cond.code (⟨"java/lang/String", "charAt", "(I)C"⟩ : MethodName) jdk_42_method_56_code 2 (some .char) :: ws) ({ frames := 4, cells := 0, slots := 0, locals := 53 } : Room)) (fun a U => a = #[(.ref a1), (.int p2)] ∧ Z.Warmed39 U.vm ∧ U.heap = h0) (fun _ _ _ _ _ => True) (fun _ U o U' => ∃ v L, o = .returned v ∧ PQ h0 (some (.int (f i))) v U'.heap L ∧ FrameEnd U o U' L ({ frames := 4, cells := 0, slots := 0, locals := 53 } : Room).cells ({ frames := 4, cells := 0, slots := 0, locals := 53 } : Room).slots) := by
  obtain ⟨E, av, Fv, ⟨Fc, A, q⟩ | ⟨Fc, A, q⟩⟩ := hs
  · exact rm11L l Z a0 hw ws a1 p2 G1 oF av n (fun j => own_bb (f j)) i (f i) h0 n0 Z0 O2 P3 OL O4 O5 O6 O7 E Fv Fc A hi hin hn4 (q i hin)
  · exact rm11U l Z a0 hw ws a1 p2 G1 oF av n (own_u f) i (f i) h0 n0 Z0 O2 P3 OL O4 O5 O6 O7 E Fv Fc A hi hin hn4 (q i hin)
theorem d8_0 : decode prog_1_method_4_code 0 = .ok (.iconst 0, 1) := by decide +kernel
theorem d8_1 : decode prog_1_method_4_code 1 = .ok (.istore_n 1, 1) := by decide +kernel
theorem d8_2 : decode prog_1_method_4_code 2 = .ok (.iload_n 1, 1) := by decide +kernel
theorem d8_3 : decode prog_1_method_4_code 3 = .ok (.aload_n 0, 1) := by decide +kernel
theorem d8_4 : decode prog_1_method_4_code 4 = .ok (.invokevirtual 15, 3) := by decide +kernel
theorem d8_7 : decode prog_1_method_4_code 7 = .ok (.if_icmp .ge 22, 3) := by decide +kernel
theorem d8_29 : decode prog_1_method_4_code 29 = .ok (.iconst (-1), 1) := by decide +kernel
theorem d8_30 : decode prog_1_method_4_code 30 = .ok (.ireturn, 1) := by decide +kernel
theorem pn_8 : plainName "com/example/cartouche/cartouche/ControlCharacters" = true := by first | (simp [plainName, overriddenIn]; done) | decide +kernel
theorem pd_8n0_0 : parseMethodDescriptor "()I" = some ⟨[], some .int⟩ := by decide +kernel
theorem ef_8n0 (m : MethodId) (a1 : Addr) : entryFrame m #[(.ref a1)] 2 = mkF m 0 #[.val (.ref a1), .unset] [] := by first | (simp [entryFrame, mkF, argsToLocals, Value.category]; done) | rfl
def Q8n0 (Z : State) (a1 : Addr) (G1 : Int32) (oF : Option Addr) (f : Nat → Int32) (h0 : Heap) (n0 : Nat) (v : Option Value) (h : Heap) (L : List Loc) : Prop := PQ h0 (some (.int (own_ix (fun i => f16 (f i)) 0 0))) v h L
set_option maxRecDepth 65536 in
set_option maxHeartbeats 40000000 in
theorem rm8n0 (l : Launch) (Z : State) (a0 : Array Value) (hw : ∀ d ∈ tables_1, d.before a0 Z = true) (ws : List Jvm.Cond) (a1 : Addr) (G1 : Int32) (oF : Option Addr) (f : Nat → Int32) (h0 : Heap) (n0 : Nat) (Z0 : n0 ≤ h0.size) (O2 : Sta Z Z.heap "java/lang/String" "COMPACT_STRINGS" "Z" (.int G1)) (P3 : ¬ (G1 = (0 : Int32))) (OL : Old Z n0 h0) (O4 : Sta Z Z.heap "jdk/internal/util/Preconditions" "SIOOBE_FORMATTER" "Ljava/util/function/BiFunction;" (ov oF)) (O5 : Sta Z Z.heap "java/lang/StringUTF16" "$assertionsDisabled" "Z" (.int (1 : Int32))) (O6 : Sta Z Z.heap "java/lang/StringUTF16" "HI_BYTE_SHIFT" "I" (.int (0 : Int32))) (O7 : Sta Z Z.heap "java/lang/StringUTF16" "LO_BYTE_SHIFT" "I" (.int (8 : Int32))) (hs : Str Z h0 a1 0 f) :
    MetFree l (⟨"com/example/cartouche/cartouche/ControlCharacters", "indexIn", "(Ljava/lang/String;)I"⟩ : MethodName) (head1 (Jvm.Cond.code (⟨"com/example/cartouche/cartouche/ControlCharacters", "indexIn", "(Ljava/lang/String;)I"⟩ : MethodName) prog_1_method_4_code 2 (some .int) :: ws) ({ frames := 2, cells := 0, slots := 0, locals := 26 } : Room)) (fun a U => a = #[(.ref a1)] ∧ Z.Warmed39 U.vm ∧ U.heap = h0) (fun _ _ _ _ _ => True) (fun _ U o U' => ∃ v L, o = .returned v ∧ Q8n0 Z a1 G1 oF f h0 n0 v U'.heap L ∧ FrameEnd U o U' L ({ frames := 2, cells := 0, slots := 0, locals := 26 } : Room).cells ({ frames := 2, cells := 0, slots := 0, locals := 26 } : Room).slots) := by
  refine MetFree.of_bodySF (plainFor_of_name pn_8) hisR ?_
  intro p e s m args below meth c s₁ Bd hml0 hP hK
  obtain ⟨rfl, hZ, hh⟩ := hP
  have hx := Bd.exec
  have hby := Bd.bytes
  have hlk := Bd.notSynchronized
  have hml : c.maxLocals = 2 := hml0
  have hown : s.vm.findClass "com/example/cartouche/cartouche/ControlCharacters" = some m.cls := findClass_of_methodNamed Bd.named
  have hnm := (name_of_methodNamed Bd.named Bd.method).1
  have X0 : Stand p l e ({ frames := 2, cells := 0, slots := 0, locals := 26 } : Room) s m #[(.ref a1)] below meth c s₁ [] 0 0 := Stand.of_body Bd
  have e0 : s₁.heap = h0 := by rw [← hh, Bd.state]; rfl
  have N0 := Fr.nil n0
  have K0 : Keep h0 h0 [] := Keep.refl h0 _
  show Goes p e below s ({ frames := 2, cells := 0, slots := 0, locals := 26 } : Room).cells ({ frames := 2, cells := 0, slots := 0, locals := 26 } : Room).slots (Q8n0 Z a1 G1 oF f h0 n0) s₁ (entryFrame m #[(.ref a1)] 2)
  refine Goes.step (fun t k => castTop (ef_8n0 m a1) k) ?_
  refine Goes.step (fun _ k => XS.iconst X0.here hx rfl (hb hby d8_0) k) ?_
  refine Goes.step (fun _ k => XS.istoreN X0.here hx rfl (hb hby d8_1) rfl (l' := #[.val (.ref a1), .val (.int (0 : Int32))]) rfl k) ?_
  show Goes p e below s _ _ _ s₁ (mkF m 2 #[.val (.ref a1), .val (.int (0 : Int32))] [])
  refine Goes.step (fun _ k => XS.iloadN X0.here hx rfl (hb hby d8_2) rfl k) ?_
  refine Goes.step (fun _ k => XS.aloadN X0.here hx rfl (hb hby d8_3) rfl rfl k) ?_
  show Goes p e below s _ _ _ s₁ (mkF m 4 #[.val (.ref a1), .val (.int (0 : Int32))] [(.ref a1), (.int (0 : Int32))])
  obtain ⟨T1, X1, e1, st1⟩ := own_pure (r := some (.int (Int32.ofNat 0))) (fun _ _ _ q => q) (callXV X0 hx hZ (C := "java/lang/String") (b := a1) (y := (⟨"java/lang/String", "length", "()I"⟩ : MethodName)) (z := (⟨"java/lang/String", "length", "()I"⟩ : MethodName)) hown (hw _ (List.mem_of_getElem? (i := 40) rfl)) (hw _ (List.mem_of_getElem? (i := 41) rfl)) (hw _ (List.mem_of_getElem? (i := 43) rfl)) (hw _ (List.mem_of_getElem? (i := 42) rfl)) (hw _ (List.mem_of_getElem? (i := 44) rfl)) (hw _ (List.mem_of_getElem? (i := 4) rfl)) (notFace_of_selects (args := #[]) (mvT hZ (hw _ (List.mem_of_getElem? (i := 43) rfl)))) (by decide) (W := 1) (argsL := []) (rest := [(.int (0 : Int32))]) (rm9s l Z a0 hw [] a1 G1 0 f h0 n0 Z0 O2 P3 (OL.keep K0 all0) hs (by decide)) (by decide) (by decide) (by decide) (by decide) e0 hs.1 (g := (mkF m 4 #[.val (.ref a1), .val (.int (0 : Int32))] [(.ref a1), (.int (0 : Int32))])) rfl (by rw [hml]; rfl) (lenOf pd_8n0_0 rfl) rfl (by show 2 * 0 + _ ≤ _; exact Nat.le_of_eq rfl) (hb hby d8_4))
  refine Goes.step st1 ?_
  show Goes p e below s _ _ _ T1 (mkF m 7 #[.val (.ref a1), .val (.int (0 : Int32))] [(.int (Int32.ofNat 0)), (.int (0 : Int32))])
  refine Goes.step (fun _ k => XS.icmpYes X1.here hx rfl (pc0 := 7) (pc' := 29) rfl (hb hby d8_7) rfl (flt (by decide : ¬ ((0 : Int32) < (Int32.ofNat 0)))).2.1 (by decide) (by decide) k) ?_
  show Goes p e below s _ _ _ T1 (mkF m 29 #[.val (.ref a1), .val (.int (0 : Int32))] [])
  refine Goes.step (fun _ k => XS.iconst X1.here hx rfl (hb hby d8_29) k) ?_
  show Goes p e below s _ _ _ T1 (mkF m 30 #[.val (.ref a1), .val (.int (0 : Int32))] [(.int (-1 : Int32))])
  exact Goes.outI X1 hx hlk Bd.returns (hb hby d8_30) (by rw [e1]; exact ⟨by rw [own_x0], rfl, rfl⟩) (by decide) (by decide)
theorem d8_10 : decode prog_1_method_4_code 10 = .ok (.aload_n 0, 1) := by decide +kernel
theorem d8_11 : decode prog_1_method_4_code 11 = .ok (.iload_n 1, 1) := by decide +kernel
theorem d8_12 : decode prog_1_method_4_code 12 = .ok (.invokevirtual 28, 3) := by decide +kernel
theorem d8_15 : decode prog_1_method_4_code 15 = .ok (.invokestatic 32, 3) := by decide +kernel
theorem d8_18 : decode prog_1_method_4_code 18 = .ok (.ifCond .eq 5, 3) := by decide +kernel
theorem d8_21 : decode prog_1_method_4_code 21 = .ok (.iload_n 1, 1) := by decide +kernel
theorem d8_22 : decode prog_1_method_4_code 22 = .ok (.ireturn, 1) := by decide +kernel
theorem d8_23 : decode prog_1_method_4_code 23 = .ok (.iinc 1 1, 3) := by decide +kernel
theorem d8_26 : decode prog_1_method_4_code 26 = .ok (.goto (-24), 3) := by decide +kernel
theorem pd_8n1_0 : parseMethodDescriptor "()I" = some ⟨[], some .int⟩ := by decide +kernel
theorem pd_8n1_1 : parseMethodDescriptor "(I)C" = some ⟨[.int], some .char⟩ := by decide +kernel
theorem pd_8n1_2 : parseMethodDescriptor "(C)Z" = some ⟨[.char], some .boolean⟩ := by decide +kernel
theorem ef_8n1 (m : MethodId) (a1 : Addr) : entryFrame m #[(.ref a1)] 2 = mkF m 0 #[.val (.ref a1), .unset] [] := by first | (simp [entryFrame, mkF, argsToLocals, Value.category]; done) | rfl
def Q8n1 (Z : State) (a1 : Addr) (G1 : Int32) (oF : Option Addr) (f : Nat → Int32) (h0 : Heap) (n0 : Nat) (v : Option Value) (h : Heap) (L : List Loc) : Prop := PQ h0 (some (.int (own_ix (fun i => f16 (f i)) 1 0))) v h L
set_option maxRecDepth 65536 in
set_option maxHeartbeats 40000000 in
theorem rm8n1 (l : Launch) (Z : State) (a0 : Array Value) (hw : ∀ d ∈ tables_1, d.before a0 Z = true) (ws : List Jvm.Cond) (a1 : Addr) (G1 : Int32) (oF : Option Addr) (f : Nat → Int32) (h0 : Heap) (n0 : Nat) (Z0 : n0 ≤ h0.size) (O2 : Sta Z Z.heap "java/lang/String" "COMPACT_STRINGS" "Z" (.int G1)) (P3 : ¬ (G1 = (0 : Int32))) (OL : Old Z n0 h0) (O4 : Sta Z Z.heap "jdk/internal/util/Preconditions" "SIOOBE_FORMATTER" "Ljava/util/function/BiFunction;" (ov oF)) (O5 : Sta Z Z.heap "java/lang/StringUTF16" "$assertionsDisabled" "Z" (.int (1 : Int32))) (O6 : Sta Z Z.heap "java/lang/StringUTF16" "HI_BYTE_SHIFT" "I" (.int (0 : Int32))) (O7 : Sta Z Z.heap "java/lang/StringUTF16" "LO_BYTE_SHIFT" "I" (.int (8 : Int32))) (hs : Str Z h0 a1 1 f) :
    MetFree l (⟨"com/example/cartouche/cartouche/ControlCharacters", "indexIn", "(Ljava/lang/String;)I"⟩ : MethodName) (head1 (Jvm.Cond.code (⟨"com/example/cartouche/cartouche/ControlCharacters", "indexIn", "(Ljava/lang/String;)I"⟩ : MethodName) prog_1_method_4_code 2 (some .int) :: ws) ({ frames := 5, cells := 0, slots := 0, locals := 66 } : Room)) (fun a U => a = #[(.ref a1)] ∧ Z.Warmed39 U.vm ∧ U.heap = h0) (fun _ _ _ _ _ => True) (fun _ U o U' => ∃ v L, o = .returned v ∧ Q8n1 Z a1 G1 oF f h0 n0 v U'.heap L ∧ FrameEnd U o U' L ({ frames := 5, cells := 0, slots := 0, locals := 66 } : Room).cells ({ frames := 5, cells := 0, slots := 0, locals := 66 } : Room).slots) := by
  refine MetFree.of_bodySF (plainFor_of_name pn_8) hisR ?_
  intro p e s m args below meth c s₁ Bd hml0 hP hK
  obtain ⟨rfl, hZ, hh⟩ := hP
  have hx := Bd.exec
  have hby := Bd.bytes
  have hlk := Bd.notSynchronized
  have hml : c.maxLocals = 2 := hml0
  have hown : s.vm.findClass "com/example/cartouche/cartouche/ControlCharacters" = some m.cls := findClass_of_methodNamed Bd.named
  have hnm := (name_of_methodNamed Bd.named Bd.method).1
  have X0 : Stand p l e ({ frames := 5, cells := 0, slots := 0, locals := 66 } : Room) s m #[(.ref a1)] below meth c s₁ [] 0 0 := Stand.of_body Bd
  have e0 : s₁.heap = h0 := by rw [← hh, Bd.state]; rfl
  have N0 := Fr.nil n0
  have K0 : Keep h0 h0 [] := Keep.refl h0 _
  show Goes p e below s ({ frames := 5, cells := 0, slots := 0, locals := 66 } : Room).cells ({ frames := 5, cells := 0, slots := 0, locals := 66 } : Room).slots (Q8n1 Z a1 G1 oF f h0 n0) s₁ (entryFrame m #[(.ref a1)] 2)
  refine Goes.step (fun t k => castTop (ef_8n1 m a1) k) ?_
  refine Goes.step (fun _ k => XS.iconst X0.here hx rfl (hb hby d8_0) k) ?_
  refine Goes.step (fun _ k => XS.istoreN X0.here hx rfl (hb hby d8_1) rfl (l' := #[.val (.ref a1), .val (.int (0 : Int32))]) rfl k) ?_
  show Goes p e below s _ _ _ s₁ (mkF m 2 #[.val (.ref a1), .val (.int (0 : Int32))] [])
  refine Goes.step (fun _ k => XS.iloadN X0.here hx rfl (hb hby d8_2) rfl k) ?_
  refine Goes.step (fun _ k => XS.aloadN X0.here hx rfl (hb hby d8_3) rfl rfl k) ?_
  show Goes p e below s _ _ _ s₁ (mkF m 4 #[.val (.ref a1), .val (.int (0 : Int32))] [(.ref a1), (.int (0 : Int32))])
  obtain ⟨T1, X1, e1, st1⟩ := own_pure (r := some (.int (Int32.ofNat 1))) (fun _ _ _ q => q) (callXV X0 hx hZ (C := "java/lang/String") (b := a1) (y := (⟨"java/lang/String", "length", "()I"⟩ : MethodName)) (z := (⟨"java/lang/String", "length", "()I"⟩ : MethodName)) hown (hw _ (List.mem_of_getElem? (i := 40) rfl)) (hw _ (List.mem_of_getElem? (i := 41) rfl)) (hw _ (List.mem_of_getElem? (i := 43) rfl)) (hw _ (List.mem_of_getElem? (i := 42) rfl)) (hw _ (List.mem_of_getElem? (i := 44) rfl)) (hw _ (List.mem_of_getElem? (i := 4) rfl)) (notFace_of_selects (args := #[]) (mvT hZ (hw _ (List.mem_of_getElem? (i := 43) rfl)))) (by decide) (W := 1) (argsL := []) (rest := [(.int (0 : Int32))]) (rm9s l Z a0 hw [] a1 G1 1 f h0 n0 Z0 O2 P3 (OL.keep K0 all0) hs (by decide)) (by decide) (by decide) (by decide) (by decide) e0 hs.1 (g := (mkF m 4 #[.val (.ref a1), .val (.int (0 : Int32))] [(.ref a1), (.int (0 : Int32))])) rfl (by rw [hml]; rfl) (lenOf pd_8n1_0 rfl) rfl (by show 2 * 0 + _ ≤ _; exact Nat.le_of_eq rfl) (hb hby d8_4))
  refine Goes.step st1 ?_
  show Goes p e below s _ _ _ T1 (mkF m 7 #[.val (.ref a1), .val (.int (0 : Int32))] [(.int (Int32.ofNat 1)), (.int (0 : Int32))])
  refine Goes.step (fun _ k => XS.icmpNo X1.here hx rfl (hb hby d8_7) rfl (tlt (by decide : (0 : Int32) < (Int32.ofNat 1))).2.1 k) ?_
  show Goes p e below s _ _ _ T1 (mkF m 10 #[.val (.ref a1), .val (.int (0 : Int32))] [])
  refine Goes.step (fun _ k => XS.aloadN X1.here hx rfl (hb hby d8_10) rfl rfl k) ?_
  refine Goes.step (fun _ k => XS.iloadN X1.here hx rfl (hb hby d8_11) rfl k) ?_
  show Goes p e below s _ _ _ T1 (mkF m 12 #[.val (.ref a1), .val (.int (0 : Int32))] [(.int (0 : Int32)), (.ref a1)])
  obtain ⟨T2, X2, e2, st2⟩ := own_pure (r := some (.int (f 0))) (fun _ _ _ q => q) (callXV X1 hx hZ (C := "java/lang/String") (b := a1) (y := (⟨"java/lang/String", "charAt", "(I)C"⟩ : MethodName)) (z := (⟨"java/lang/String", "charAt", "(I)C"⟩ : MethodName)) hown (hw _ (List.mem_of_getElem? (i := 50) rfl)) (hw _ (List.mem_of_getElem? (i := 51) rfl)) (hw _ (List.mem_of_getElem? (i := 53) rfl)) (hw _ (List.mem_of_getElem? (i := 52) rfl)) (hw _ (List.mem_of_getElem? (i := 54) rfl)) (hw _ (List.mem_of_getElem? (i := 4) rfl)) (notFace_of_selects (args := #[]) (mvT hZ (hw _ (List.mem_of_getElem? (i := 53) rfl)))) (by decide) (W := 0) (argsL := [(.int (0 : Int32))]) (rest := []) (rm11s l Z a0 hw [] a1 (0 : Int32) G1 oF 1 f 0 h0 n0 Z0 O2 P3 (OL.keep K0 all0) O4 O5 O6 O7 hs (by decide) rfl (by decide)) (by decide) (by decide) (by decide) (by decide) e1 hs.1 (g := (mkF m 12 #[.val (.ref a1), .val (.int (0 : Int32))] [(.int (0 : Int32)), (.ref a1)])) rfl (by rw [hml]; rfl) (lenOf pd_8n1_1 rfl) rfl (by show 2 * 0 + _ ≤ _; exact Nat.le_of_eq rfl) (hb hby d8_12))
  refine Goes.step st2 ?_
  show Goes p e below s _ _ _ T2 (mkF m 15 #[.val (.ref a1), .val (.int (0 : Int32))] [(.int (f 0))])
  obtain ⟨T3, X3, e3, st3⟩ := callPure X2 hx hZ (y := (⟨"com/example/cartouche/cartouche/ControlCharacters", "isControl", "(C)Z"⟩ : MethodName)) hown (hw _ (List.mem_of_getElem? (i := 72) rfl)) (hw _ (List.mem_of_getElem? (i := 73) rfl)) (hw _ (List.mem_of_getElem? (i := 38) rfl)) (hw _ (List.mem_of_getElem? (i := 74) rfl)) (by decide) (W := 0) (argsL := [(.int (f 0))]) (rest := []) (r := (.int (f16 (f 0)))) (fun _ _ _ q => q) (rm16 l Z a0 hw [] (f 0) h0 ) (by decide) (by decide) (by decide) (by decide) e2 (g := (mkF m 15 #[.val (.ref a1), .val (.int (0 : Int32))] [(.int (f 0))])) rfl (by rw [hml]; rfl) (lenOf pd_8n1_2 rfl) rfl (by show 2 * 0 + _ ≤ _; exact Nat.le_of_eq rfl) (hb hby d8_15)
  refine Goes.step st3 ?_
  show Goes p e below s _ _ _ T3 (mkF m 18 #[.val (.ref a1), .val (.int (0 : Int32))] [(.int (f16 (f 0)))])
  by_cases hc18 : (f16 (f 0)) = (0 : Int32)
  · refine Goes.step (fun _ k => XS.ifYes X3.here hx rfl (pc0 := 18) (pc' := 23) rfl (hb hby d8_18) rfl ((if0 _ _).trans (teq hc18).1) (by decide) (by decide) k) ?_
    show Goes p e below s _ _ _ T3 (mkF m 23 #[.val (.ref a1), .val (.int (0 : Int32))] [])
    refine Goes.step (fun _ k => XS.iinc X3.here hx rfl (hb hby d8_23) rfl (l' := #[.val (.ref a1), .val (.int (1 : Int32))]) rfl k) ?_
    show Goes p e below s _ _ _ T3 (mkF m 26 #[.val (.ref a1), .val (.int (1 : Int32))] [])
    refine Goes.step (fun _ k => XS.goto X3.here hx rfl (pc0 := 26) (pc' := 2) rfl (hb hby d8_26) (by decide) (by decide) k) ?_
    refine Goes.step (fun _ k => XS.iloadN X3.here hx rfl (hb hby d8_2) rfl k) ?_
    show Goes p e below s _ _ _ T3 (mkF m 3 #[.val (.ref a1), .val (.int (1 : Int32))] [(.int (1 : Int32))])
    refine Goes.step (fun _ k => XS.aloadN X3.here hx rfl (hb hby d8_3) rfl rfl k) ?_
    obtain ⟨T4, X4, e4, st4⟩ := own_pure (r := some (.int (Int32.ofNat 1))) (fun _ _ _ q => q) (callXV X3 hx hZ (C := "java/lang/String") (b := a1) (y := (⟨"java/lang/String", "length", "()I"⟩ : MethodName)) (z := (⟨"java/lang/String", "length", "()I"⟩ : MethodName)) hown (hw _ (List.mem_of_getElem? (i := 40) rfl)) (hw _ (List.mem_of_getElem? (i := 41) rfl)) (hw _ (List.mem_of_getElem? (i := 43) rfl)) (hw _ (List.mem_of_getElem? (i := 42) rfl)) (hw _ (List.mem_of_getElem? (i := 44) rfl)) (hw _ (List.mem_of_getElem? (i := 4) rfl)) (notFace_of_selects (args := #[]) (mvT hZ (hw _ (List.mem_of_getElem? (i := 43) rfl)))) (by decide) (W := 1) (argsL := []) (rest := [(.int (1 : Int32))]) (rm9s l Z a0 hw [] a1 G1 1 f h0 n0 Z0 O2 P3 (OL.keep K0 all0) hs (by decide)) (by decide) (by decide) (by decide) (by decide) e3 hs.1 (g := (mkF m 4 #[.val (.ref a1), .val (.int (1 : Int32))] [(.ref a1), (.int (1 : Int32))])) rfl (by rw [hml]; rfl) (lenOf pd_8n1_0 rfl) rfl (by show 2 * 0 + _ ≤ _; exact Nat.le_of_eq rfl) (hb hby d8_4))
    refine Goes.step st4 ?_
    show Goes p e below s _ _ _ T4 (mkF m 7 #[.val (.ref a1), .val (.int (1 : Int32))] [(.int (Int32.ofNat 1)), (.int (1 : Int32))])
    refine Goes.step (fun _ k => XS.icmpYes X4.here hx rfl (pc0 := 7) (pc' := 29) rfl (hb hby d8_7) rfl (flt (by decide : ¬ ((1 : Int32) < (Int32.ofNat 1)))).2.1 (by decide) (by decide) k) ?_
    show Goes p e below s _ _ _ T4 (mkF m 29 #[.val (.ref a1), .val (.int (1 : Int32))] [])
    refine Goes.step (fun _ k => XS.iconst X4.here hx rfl (hb hby d8_29) k) ?_
    show Goes p e below s _ _ _ T4 (mkF m 30 #[.val (.ref a1), .val (.int (1 : Int32))] [(.int (-1 : Int32))])
    exact Goes.outI X4 hx hlk Bd.returns (hb hby d8_30) (by rw [e4]; exact ⟨by rw [own_x1]; simp only [if_pos hc18], rfl, rfl⟩) (by decide) (by decide)
  · refine Goes.step (fun _ k => XS.ifNo X3.here hx rfl (hb hby d8_18) rfl ((if0 _ _).trans (feq hc18).1) k) ?_
    show Goes p e below s _ _ _ T3 (mkF m 21 #[.val (.ref a1), .val (.int (0 : Int32))] [])
    refine Goes.step (fun _ k => XS.iloadN X3.here hx rfl (hb hby d8_21) rfl k) ?_
    show Goes p e below s _ _ _ T3 (mkF m 22 #[.val (.ref a1), .val (.int (0 : Int32))] [(.int (0 : Int32))])
    exact Goes.outI X3 hx hlk Bd.returns (hb hby d8_22) (by rw [e3]; exact ⟨by rw [own_x1]; simp only [if_neg hc18], rfl, rfl⟩) (by decide) (by decide)
theorem pd_8n2_0 : parseMethodDescriptor "()I" = some ⟨[], some .int⟩ := by decide +kernel
theorem pd_8n2_1 : parseMethodDescriptor "(I)C" = some ⟨[.int], some .char⟩ := by decide +kernel
theorem pd_8n2_2 : parseMethodDescriptor "(C)Z" = some ⟨[.char], some .boolean⟩ := by decide +kernel
theorem ef_8n2 (m : MethodId) (a1 : Addr) : entryFrame m #[(.ref a1)] 2 = mkF m 0 #[.val (.ref a1), .unset] [] := by first | (simp [entryFrame, mkF, argsToLocals, Value.category]; done) | rfl
def Q8n2 (Z : State) (a1 : Addr) (G1 : Int32) (oF : Option Addr) (f : Nat → Int32) (h0 : Heap) (n0 : Nat) (v : Option Value) (h : Heap) (L : List Loc) : Prop := PQ h0 (some (.int (own_ix (fun i => f16 (f i)) 2 0))) v h L
set_option maxRecDepth 65536 in
set_option maxHeartbeats 40000000 in
theorem rm8n2 (l : Launch) (Z : State) (a0 : Array Value) (hw : ∀ d ∈ tables_1, d.before a0 Z = true) (ws : List Jvm.Cond) (a1 : Addr) (G1 : Int32) (oF : Option Addr) (f : Nat → Int32) (h0 : Heap) (n0 : Nat) (Z0 : n0 ≤ h0.size) (O2 : Sta Z Z.heap "java/lang/String" "COMPACT_STRINGS" "Z" (.int G1)) (P3 : ¬ (G1 = (0 : Int32))) (OL : Old Z n0 h0) (O4 : Sta Z Z.heap "jdk/internal/util/Preconditions" "SIOOBE_FORMATTER" "Ljava/util/function/BiFunction;" (ov oF)) (O5 : Sta Z Z.heap "java/lang/StringUTF16" "$assertionsDisabled" "Z" (.int (1 : Int32))) (O6 : Sta Z Z.heap "java/lang/StringUTF16" "HI_BYTE_SHIFT" "I" (.int (0 : Int32))) (O7 : Sta Z Z.heap "java/lang/StringUTF16" "LO_BYTE_SHIFT" "I" (.int (8 : Int32))) (hs : Str Z h0 a1 2 f) :
    MetFree l (⟨"com/example/cartouche/cartouche/ControlCharacters", "indexIn", "(Ljava/lang/String;)I"⟩ : MethodName) (head1 (Jvm.Cond.code (⟨"com/example/cartouche/cartouche/ControlCharacters", "indexIn", "(Ljava/lang/String;)I"⟩ : MethodName) prog_1_method_4_code 2 (some .int) :: ws) ({ frames := 5, cells := 0, slots := 0, locals := 66 } : Room)) (fun a U => a = #[(.ref a1)] ∧ Z.Warmed39 U.vm ∧ U.heap = h0) (fun _ _ _ _ _ => True) (fun _ U o U' => ∃ v L, o = .returned v ∧ Q8n2 Z a1 G1 oF f h0 n0 v U'.heap L ∧ FrameEnd U o U' L ({ frames := 5, cells := 0, slots := 0, locals := 66 } : Room).cells ({ frames := 5, cells := 0, slots := 0, locals := 66 } : Room).slots) := by
  refine MetFree.of_bodySF (plainFor_of_name pn_8) hisR ?_
  intro p e s m args below meth c s₁ Bd hml0 hP hK
  obtain ⟨rfl, hZ, hh⟩ := hP
  have hx := Bd.exec
  have hby := Bd.bytes
  have hlk := Bd.notSynchronized
  have hml : c.maxLocals = 2 := hml0
  have hown : s.vm.findClass "com/example/cartouche/cartouche/ControlCharacters" = some m.cls := findClass_of_methodNamed Bd.named
  have hnm := (name_of_methodNamed Bd.named Bd.method).1
  have X0 : Stand p l e ({ frames := 5, cells := 0, slots := 0, locals := 66 } : Room) s m #[(.ref a1)] below meth c s₁ [] 0 0 := Stand.of_body Bd
  have e0 : s₁.heap = h0 := by rw [← hh, Bd.state]; rfl
  have N0 := Fr.nil n0
  have K0 : Keep h0 h0 [] := Keep.refl h0 _
  show Goes p e below s ({ frames := 5, cells := 0, slots := 0, locals := 66 } : Room).cells ({ frames := 5, cells := 0, slots := 0, locals := 66 } : Room).slots (Q8n2 Z a1 G1 oF f h0 n0) s₁ (entryFrame m #[(.ref a1)] 2)
  refine Goes.step (fun t k => castTop (ef_8n2 m a1) k) ?_
  refine Goes.step (fun _ k => XS.iconst X0.here hx rfl (hb hby d8_0) k) ?_
  refine Goes.step (fun _ k => XS.istoreN X0.here hx rfl (hb hby d8_1) rfl (l' := #[.val (.ref a1), .val (.int (0 : Int32))]) rfl k) ?_
  show Goes p e below s _ _ _ s₁ (mkF m 2 #[.val (.ref a1), .val (.int (0 : Int32))] [])
  refine Goes.step (fun _ k => XS.iloadN X0.here hx rfl (hb hby d8_2) rfl k) ?_
  refine Goes.step (fun _ k => XS.aloadN X0.here hx rfl (hb hby d8_3) rfl rfl k) ?_
  show Goes p e below s _ _ _ s₁ (mkF m 4 #[.val (.ref a1), .val (.int (0 : Int32))] [(.ref a1), (.int (0 : Int32))])
  obtain ⟨T1, X1, e1, st1⟩ := own_pure (r := some (.int (Int32.ofNat 2))) (fun _ _ _ q => q) (callXV X0 hx hZ (C := "java/lang/String") (b := a1) (y := (⟨"java/lang/String", "length", "()I"⟩ : MethodName)) (z := (⟨"java/lang/String", "length", "()I"⟩ : MethodName)) hown (hw _ (List.mem_of_getElem? (i := 40) rfl)) (hw _ (List.mem_of_getElem? (i := 41) rfl)) (hw _ (List.mem_of_getElem? (i := 43) rfl)) (hw _ (List.mem_of_getElem? (i := 42) rfl)) (hw _ (List.mem_of_getElem? (i := 44) rfl)) (hw _ (List.mem_of_getElem? (i := 4) rfl)) (notFace_of_selects (args := #[]) (mvT hZ (hw _ (List.mem_of_getElem? (i := 43) rfl)))) (by decide) (W := 1) (argsL := []) (rest := [(.int (0 : Int32))]) (rm9s l Z a0 hw [] a1 G1 2 f h0 n0 Z0 O2 P3 (OL.keep K0 all0) hs (by decide)) (by decide) (by decide) (by decide) (by decide) e0 hs.1 (g := (mkF m 4 #[.val (.ref a1), .val (.int (0 : Int32))] [(.ref a1), (.int (0 : Int32))])) rfl (by rw [hml]; rfl) (lenOf pd_8n2_0 rfl) rfl (by show 2 * 0 + _ ≤ _; exact Nat.le_of_eq rfl) (hb hby d8_4))
  refine Goes.step st1 ?_
  show Goes p e below s _ _ _ T1 (mkF m 7 #[.val (.ref a1), .val (.int (0 : Int32))] [(.int (Int32.ofNat 2)), (.int (0 : Int32))])
  refine Goes.step (fun _ k => XS.icmpNo X1.here hx rfl (hb hby d8_7) rfl (tlt (by decide : (0 : Int32) < (Int32.ofNat 2))).2.1 k) ?_
  show Goes p e below s _ _ _ T1 (mkF m 10 #[.val (.ref a1), .val (.int (0 : Int32))] [])
  refine Goes.step (fun _ k => XS.aloadN X1.here hx rfl (hb hby d8_10) rfl rfl k) ?_
  refine Goes.step (fun _ k => XS.iloadN X1.here hx rfl (hb hby d8_11) rfl k) ?_
  show Goes p e below s _ _ _ T1 (mkF m 12 #[.val (.ref a1), .val (.int (0 : Int32))] [(.int (0 : Int32)), (.ref a1)])
  obtain ⟨T2, X2, e2, st2⟩ := own_pure (r := some (.int (f 0))) (fun _ _ _ q => q) (callXV X1 hx hZ (C := "java/lang/String") (b := a1) (y := (⟨"java/lang/String", "charAt", "(I)C"⟩ : MethodName)) (z := (⟨"java/lang/String", "charAt", "(I)C"⟩ : MethodName)) hown (hw _ (List.mem_of_getElem? (i := 50) rfl)) (hw _ (List.mem_of_getElem? (i := 51) rfl)) (hw _ (List.mem_of_getElem? (i := 53) rfl)) (hw _ (List.mem_of_getElem? (i := 52) rfl)) (hw _ (List.mem_of_getElem? (i := 54) rfl)) (hw _ (List.mem_of_getElem? (i := 4) rfl)) (notFace_of_selects (args := #[]) (mvT hZ (hw _ (List.mem_of_getElem? (i := 53) rfl)))) (by decide) (W := 0) (argsL := [(.int (0 : Int32))]) (rest := []) (rm11s l Z a0 hw [] a1 (0 : Int32) G1 oF 2 f 0 h0 n0 Z0 O2 P3 (OL.keep K0 all0) O4 O5 O6 O7 hs (by decide) rfl (by decide)) (by decide) (by decide) (by decide) (by decide) e1 hs.1 (g := (mkF m 12 #[.val (.ref a1), .val (.int (0 : Int32))] [(.int (0 : Int32)), (.ref a1)])) rfl (by rw [hml]; rfl) (lenOf pd_8n2_1 rfl) rfl (by show 2 * 0 + _ ≤ _; exact Nat.le_of_eq rfl) (hb hby d8_12))
  refine Goes.step st2 ?_
  show Goes p e below s _ _ _ T2 (mkF m 15 #[.val (.ref a1), .val (.int (0 : Int32))] [(.int (f 0))])
  obtain ⟨T3, X3, e3, st3⟩ := callPure X2 hx hZ (y := (⟨"com/example/cartouche/cartouche/ControlCharacters", "isControl", "(C)Z"⟩ : MethodName)) hown (hw _ (List.mem_of_getElem? (i := 72) rfl)) (hw _ (List.mem_of_getElem? (i := 73) rfl)) (hw _ (List.mem_of_getElem? (i := 38) rfl)) (hw _ (List.mem_of_getElem? (i := 74) rfl)) (by decide) (W := 0) (argsL := [(.int (f 0))]) (rest := []) (r := (.int (f16 (f 0)))) (fun _ _ _ q => q) (rm16 l Z a0 hw [] (f 0) h0 ) (by decide) (by decide) (by decide) (by decide) e2 (g := (mkF m 15 #[.val (.ref a1), .val (.int (0 : Int32))] [(.int (f 0))])) rfl (by rw [hml]; rfl) (lenOf pd_8n2_2 rfl) rfl (by show 2 * 0 + _ ≤ _; exact Nat.le_of_eq rfl) (hb hby d8_15)
  refine Goes.step st3 ?_
  show Goes p e below s _ _ _ T3 (mkF m 18 #[.val (.ref a1), .val (.int (0 : Int32))] [(.int (f16 (f 0)))])
  by_cases hc18 : (f16 (f 0)) = (0 : Int32)
  · refine Goes.step (fun _ k => XS.ifYes X3.here hx rfl (pc0 := 18) (pc' := 23) rfl (hb hby d8_18) rfl ((if0 _ _).trans (teq hc18).1) (by decide) (by decide) k) ?_
    show Goes p e below s _ _ _ T3 (mkF m 23 #[.val (.ref a1), .val (.int (0 : Int32))] [])
    refine Goes.step (fun _ k => XS.iinc X3.here hx rfl (hb hby d8_23) rfl (l' := #[.val (.ref a1), .val (.int (1 : Int32))]) rfl k) ?_
    show Goes p e below s _ _ _ T3 (mkF m 26 #[.val (.ref a1), .val (.int (1 : Int32))] [])
    refine Goes.step (fun _ k => XS.goto X3.here hx rfl (pc0 := 26) (pc' := 2) rfl (hb hby d8_26) (by decide) (by decide) k) ?_
    refine Goes.step (fun _ k => XS.iloadN X3.here hx rfl (hb hby d8_2) rfl k) ?_
    show Goes p e below s _ _ _ T3 (mkF m 3 #[.val (.ref a1), .val (.int (1 : Int32))] [(.int (1 : Int32))])
    refine Goes.step (fun _ k => XS.aloadN X3.here hx rfl (hb hby d8_3) rfl rfl k) ?_
    obtain ⟨T4, X4, e4, st4⟩ := own_pure (r := some (.int (Int32.ofNat 2))) (fun _ _ _ q => q) (callXV X3 hx hZ (C := "java/lang/String") (b := a1) (y := (⟨"java/lang/String", "length", "()I"⟩ : MethodName)) (z := (⟨"java/lang/String", "length", "()I"⟩ : MethodName)) hown (hw _ (List.mem_of_getElem? (i := 40) rfl)) (hw _ (List.mem_of_getElem? (i := 41) rfl)) (hw _ (List.mem_of_getElem? (i := 43) rfl)) (hw _ (List.mem_of_getElem? (i := 42) rfl)) (hw _ (List.mem_of_getElem? (i := 44) rfl)) (hw _ (List.mem_of_getElem? (i := 4) rfl)) (notFace_of_selects (args := #[]) (mvT hZ (hw _ (List.mem_of_getElem? (i := 43) rfl)))) (by decide) (W := 1) (argsL := []) (rest := [(.int (1 : Int32))]) (rm9s l Z a0 hw [] a1 G1 2 f h0 n0 Z0 O2 P3 (OL.keep K0 all0) hs (by decide)) (by decide) (by decide) (by decide) (by decide) e3 hs.1 (g := (mkF m 4 #[.val (.ref a1), .val (.int (1 : Int32))] [(.ref a1), (.int (1 : Int32))])) rfl (by rw [hml]; rfl) (lenOf pd_8n2_0 rfl) rfl (by show 2 * 0 + _ ≤ _; exact Nat.le_of_eq rfl) (hb hby d8_4))
    refine Goes.step st4 ?_
    show Goes p e below s _ _ _ T4 (mkF m 7 #[.val (.ref a1), .val (.int (1 : Int32))] [(.int (Int32.ofNat 2)), (.int (1 : Int32))])
    refine Goes.step (fun _ k => XS.icmpNo X4.here hx rfl (hb hby d8_7) rfl (tlt (by decide : (1 : Int32) < (Int32.ofNat 2))).2.1 k) ?_
    show Goes p e below s _ _ _ T4 (mkF m 10 #[.val (.ref a1), .val (.int (1 : Int32))] [])
    refine Goes.step (fun _ k => XS.aloadN X4.here hx rfl (hb hby d8_10) rfl rfl k) ?_
    refine Goes.step (fun _ k => XS.iloadN X4.here hx rfl (hb hby d8_11) rfl k) ?_
    show Goes p e below s _ _ _ T4 (mkF m 12 #[.val (.ref a1), .val (.int (1 : Int32))] [(.int (1 : Int32)), (.ref a1)])
    obtain ⟨T5, X5, e5, st5⟩ := own_pure (r := some (.int (f 1))) (fun _ _ _ q => q) (callXV X4 hx hZ (C := "java/lang/String") (b := a1) (y := (⟨"java/lang/String", "charAt", "(I)C"⟩ : MethodName)) (z := (⟨"java/lang/String", "charAt", "(I)C"⟩ : MethodName)) hown (hw _ (List.mem_of_getElem? (i := 50) rfl)) (hw _ (List.mem_of_getElem? (i := 51) rfl)) (hw _ (List.mem_of_getElem? (i := 53) rfl)) (hw _ (List.mem_of_getElem? (i := 52) rfl)) (hw _ (List.mem_of_getElem? (i := 54) rfl)) (hw _ (List.mem_of_getElem? (i := 4) rfl)) (notFace_of_selects (args := #[]) (mvT hZ (hw _ (List.mem_of_getElem? (i := 53) rfl)))) (by decide) (W := 0) (argsL := [(.int (1 : Int32))]) (rest := []) (rm11s l Z a0 hw [] a1 (1 : Int32) G1 oF 2 f 1 h0 n0 Z0 O2 P3 (OL.keep K0 all0) O4 O5 O6 O7 hs (by decide) rfl (by decide)) (by decide) (by decide) (by decide) (by decide) e4 hs.1 (g := (mkF m 12 #[.val (.ref a1), .val (.int (1 : Int32))] [(.int (1 : Int32)), (.ref a1)])) rfl (by rw [hml]; rfl) (lenOf pd_8n2_1 rfl) rfl (by show 2 * 0 + _ ≤ _; exact Nat.le_of_eq rfl) (hb hby d8_12))
    refine Goes.step st5 ?_
    show Goes p e below s _ _ _ T5 (mkF m 15 #[.val (.ref a1), .val (.int (1 : Int32))] [(.int (f 1))])
    obtain ⟨T6, X6, e6, st6⟩ := callPure X5 hx hZ (y := (⟨"com/example/cartouche/cartouche/ControlCharacters", "isControl", "(C)Z"⟩ : MethodName)) hown (hw _ (List.mem_of_getElem? (i := 72) rfl)) (hw _ (List.mem_of_getElem? (i := 73) rfl)) (hw _ (List.mem_of_getElem? (i := 38) rfl)) (hw _ (List.mem_of_getElem? (i := 74) rfl)) (by decide) (W := 0) (argsL := [(.int (f 1))]) (rest := []) (r := (.int (f16 (f 1)))) (fun _ _ _ q => q) (rm16 l Z a0 hw [] (f 1) h0 ) (by decide) (by decide) (by decide) (by decide) e5 (g := (mkF m 15 #[.val (.ref a1), .val (.int (1 : Int32))] [(.int (f 1))])) rfl (by rw [hml]; rfl) (lenOf pd_8n2_2 rfl) rfl (by show 2 * 0 + _ ≤ _; exact Nat.le_of_eq rfl) (hb hby d8_15)
    refine Goes.step st6 ?_
    show Goes p e below s _ _ _ T6 (mkF m 18 #[.val (.ref a1), .val (.int (1 : Int32))] [(.int (f16 (f 1)))])
    by_cases hc18_1 : (f16 (f 1)) = (0 : Int32)
    · refine Goes.step (fun _ k => XS.ifYes X6.here hx rfl (pc0 := 18) (pc' := 23) rfl (hb hby d8_18) rfl ((if0 _ _).trans (teq hc18_1).1) (by decide) (by decide) k) ?_
      show Goes p e below s _ _ _ T6 (mkF m 23 #[.val (.ref a1), .val (.int (1 : Int32))] [])
      refine Goes.step (fun _ k => XS.iinc X6.here hx rfl (hb hby d8_23) rfl (l' := #[.val (.ref a1), .val (.int (2 : Int32))]) rfl k) ?_
      show Goes p e below s _ _ _ T6 (mkF m 26 #[.val (.ref a1), .val (.int (2 : Int32))] [])
      refine Goes.step (fun _ k => XS.goto X6.here hx rfl (pc0 := 26) (pc' := 2) rfl (hb hby d8_26) (by decide) (by decide) k) ?_
      refine Goes.step (fun _ k => XS.iloadN X6.here hx rfl (hb hby d8_2) rfl k) ?_
      show Goes p e below s _ _ _ T6 (mkF m 3 #[.val (.ref a1), .val (.int (2 : Int32))] [(.int (2 : Int32))])
      refine Goes.step (fun _ k => XS.aloadN X6.here hx rfl (hb hby d8_3) rfl rfl k) ?_
      obtain ⟨T7, X7, e7, st7⟩ := own_pure (r := some (.int (Int32.ofNat 2))) (fun _ _ _ q => q) (callXV X6 hx hZ (C := "java/lang/String") (b := a1) (y := (⟨"java/lang/String", "length", "()I"⟩ : MethodName)) (z := (⟨"java/lang/String", "length", "()I"⟩ : MethodName)) hown (hw _ (List.mem_of_getElem? (i := 40) rfl)) (hw _ (List.mem_of_getElem? (i := 41) rfl)) (hw _ (List.mem_of_getElem? (i := 43) rfl)) (hw _ (List.mem_of_getElem? (i := 42) rfl)) (hw _ (List.mem_of_getElem? (i := 44) rfl)) (hw _ (List.mem_of_getElem? (i := 4) rfl)) (notFace_of_selects (args := #[]) (mvT hZ (hw _ (List.mem_of_getElem? (i := 43) rfl)))) (by decide) (W := 1) (argsL := []) (rest := [(.int (2 : Int32))]) (rm9s l Z a0 hw [] a1 G1 2 f h0 n0 Z0 O2 P3 (OL.keep K0 all0) hs (by decide)) (by decide) (by decide) (by decide) (by decide) e6 hs.1 (g := (mkF m 4 #[.val (.ref a1), .val (.int (2 : Int32))] [(.ref a1), (.int (2 : Int32))])) rfl (by rw [hml]; rfl) (lenOf pd_8n2_0 rfl) rfl (by show 2 * 0 + _ ≤ _; exact Nat.le_of_eq rfl) (hb hby d8_4))
      refine Goes.step st7 ?_
      show Goes p e below s _ _ _ T7 (mkF m 7 #[.val (.ref a1), .val (.int (2 : Int32))] [(.int (Int32.ofNat 2)), (.int (2 : Int32))])
      refine Goes.step (fun _ k => XS.icmpYes X7.here hx rfl (pc0 := 7) (pc' := 29) rfl (hb hby d8_7) rfl (flt (by decide : ¬ ((2 : Int32) < (Int32.ofNat 2)))).2.1 (by decide) (by decide) k) ?_
      show Goes p e below s _ _ _ T7 (mkF m 29 #[.val (.ref a1), .val (.int (2 : Int32))] [])
      refine Goes.step (fun _ k => XS.iconst X7.here hx rfl (hb hby d8_29) k) ?_
      show Goes p e below s _ _ _ T7 (mkF m 30 #[.val (.ref a1), .val (.int (2 : Int32))] [(.int (-1 : Int32))])
      exact Goes.outI X7 hx hlk Bd.returns (hb hby d8_30) (by rw [e7]; exact ⟨by rw [own_x2]; simp only [if_pos hc18, if_pos hc18_1], rfl, rfl⟩) (by decide) (by decide)
    · refine Goes.step (fun _ k => XS.ifNo X6.here hx rfl (hb hby d8_18) rfl ((if0 _ _).trans (feq hc18_1).1) k) ?_
      show Goes p e below s _ _ _ T6 (mkF m 21 #[.val (.ref a1), .val (.int (1 : Int32))] [])
      refine Goes.step (fun _ k => XS.iloadN X6.here hx rfl (hb hby d8_21) rfl k) ?_
      show Goes p e below s _ _ _ T6 (mkF m 22 #[.val (.ref a1), .val (.int (1 : Int32))] [(.int (1 : Int32))])
      exact Goes.outI X6 hx hlk Bd.returns (hb hby d8_22) (by rw [e6]; exact ⟨by rw [own_x2]; simp only [if_pos hc18, if_neg hc18_1], rfl, rfl⟩) (by decide) (by decide)
  · refine Goes.step (fun _ k => XS.ifNo X3.here hx rfl (hb hby d8_18) rfl ((if0 _ _).trans (feq hc18).1) k) ?_
    show Goes p e below s _ _ _ T3 (mkF m 21 #[.val (.ref a1), .val (.int (0 : Int32))] [])
    refine Goes.step (fun _ k => XS.iloadN X3.here hx rfl (hb hby d8_21) rfl k) ?_
    show Goes p e below s _ _ _ T3 (mkF m 22 #[.val (.ref a1), .val (.int (0 : Int32))] [(.int (0 : Int32))])
    exact Goes.outI X3 hx hlk Bd.returns (hb hby d8_22) (by rw [e3]; exact ⟨by rw [own_x2]; simp only [if_neg hc18], rfl, rfl⟩) (by decide) (by decide)
theorem pd_8n3_0 : parseMethodDescriptor "()I" = some ⟨[], some .int⟩ := by decide +kernel
theorem pd_8n3_1 : parseMethodDescriptor "(I)C" = some ⟨[.int], some .char⟩ := by decide +kernel
theorem pd_8n3_2 : parseMethodDescriptor "(C)Z" = some ⟨[.char], some .boolean⟩ := by decide +kernel
theorem ef_8n3 (m : MethodId) (a1 : Addr) : entryFrame m #[(.ref a1)] 2 = mkF m 0 #[.val (.ref a1), .unset] [] := by first | (simp [entryFrame, mkF, argsToLocals, Value.category]; done) | rfl
def Q8n3 (Z : State) (a1 : Addr) (G1 : Int32) (oF : Option Addr) (f : Nat → Int32) (h0 : Heap) (n0 : Nat) (v : Option Value) (h : Heap) (L : List Loc) : Prop := PQ h0 (some (.int (own_ix (fun i => f16 (f i)) 3 0))) v h L
set_option maxRecDepth 65536 in
set_option maxHeartbeats 40000000 in
theorem rm8n3 (l : Launch) (Z : State) (a0 : Array Value) (hw : ∀ d ∈ tables_1, d.before a0 Z = true) (ws : List Jvm.Cond) (a1 : Addr) (G1 : Int32) (oF : Option Addr) (f : Nat → Int32) (h0 : Heap) (n0 : Nat) (Z0 : n0 ≤ h0.size) (O2 : Sta Z Z.heap "java/lang/String" "COMPACT_STRINGS" "Z" (.int G1)) (P3 : ¬ (G1 = (0 : Int32))) (OL : Old Z n0 h0) (O4 : Sta Z Z.heap "jdk/internal/util/Preconditions" "SIOOBE_FORMATTER" "Ljava/util/function/BiFunction;" (ov oF)) (O5 : Sta Z Z.heap "java/lang/StringUTF16" "$assertionsDisabled" "Z" (.int (1 : Int32))) (O6 : Sta Z Z.heap "java/lang/StringUTF16" "HI_BYTE_SHIFT" "I" (.int (0 : Int32))) (O7 : Sta Z Z.heap "java/lang/StringUTF16" "LO_BYTE_SHIFT" "I" (.int (8 : Int32))) (hs : Str Z h0 a1 3 f) :
    MetFree l (⟨"com/example/cartouche/cartouche/ControlCharacters", "indexIn", "(Ljava/lang/String;)I"⟩ : MethodName) (head1 (Jvm.Cond.code (⟨"com/example/cartouche/cartouche/ControlCharacters", "indexIn", "(Ljava/lang/String;)I"⟩ : MethodName) prog_1_method_4_code 2 (some .int) :: ws) ({ frames := 5, cells := 0, slots := 0, locals := 66 } : Room)) (fun a U => a = #[(.ref a1)] ∧ Z.Warmed39 U.vm ∧ U.heap = h0) (fun _ _ _ _ _ => True) (fun _ U o U' => ∃ v L, o = .returned v ∧ Q8n3 Z a1 G1 oF f h0 n0 v U'.heap L ∧ FrameEnd U o U' L ({ frames := 5, cells := 0, slots := 0, locals := 66 } : Room).cells ({ frames := 5, cells := 0, slots := 0, locals := 66 } : Room).slots) := by
  refine MetFree.of_bodySF (plainFor_of_name pn_8) hisR ?_
  intro p e s m args below meth c s₁ Bd hml0 hP hK
  obtain ⟨rfl, hZ, hh⟩ := hP
  have hx := Bd.exec
  have hby := Bd.bytes
  have hlk := Bd.notSynchronized
  have hml : c.maxLocals = 2 := hml0
  have hown : s.vm.findClass "com/example/cartouche/cartouche/ControlCharacters" = some m.cls := findClass_of_methodNamed Bd.named
  have hnm := (name_of_methodNamed Bd.named Bd.method).1
  have X0 : Stand p l e ({ frames := 5, cells := 0, slots := 0, locals := 66 } : Room) s m #[(.ref a1)] below meth c s₁ [] 0 0 := Stand.of_body Bd
  have e0 : s₁.heap = h0 := by rw [← hh, Bd.state]; rfl
  have N0 := Fr.nil n0
  have K0 : Keep h0 h0 [] := Keep.refl h0 _
  show Goes p e below s ({ frames := 5, cells := 0, slots := 0, locals := 66 } : Room).cells ({ frames := 5, cells := 0, slots := 0, locals := 66 } : Room).slots (Q8n3 Z a1 G1 oF f h0 n0) s₁ (entryFrame m #[(.ref a1)] 2)
  refine Goes.step (fun t k => castTop (ef_8n3 m a1) k) ?_
  refine Goes.step (fun _ k => XS.iconst X0.here hx rfl (hb hby d8_0) k) ?_
  refine Goes.step (fun _ k => XS.istoreN X0.here hx rfl (hb hby d8_1) rfl (l' := #[.val (.ref a1), .val (.int (0 : Int32))]) rfl k) ?_
  show Goes p e below s _ _ _ s₁ (mkF m 2 #[.val (.ref a1), .val (.int (0 : Int32))] [])
  refine Goes.step (fun _ k => XS.iloadN X0.here hx rfl (hb hby d8_2) rfl k) ?_
  refine Goes.step (fun _ k => XS.aloadN X0.here hx rfl (hb hby d8_3) rfl rfl k) ?_
  show Goes p e below s _ _ _ s₁ (mkF m 4 #[.val (.ref a1), .val (.int (0 : Int32))] [(.ref a1), (.int (0 : Int32))])
  obtain ⟨T1, X1, e1, st1⟩ := own_pure (r := some (.int (Int32.ofNat 3))) (fun _ _ _ q => q) (callXV X0 hx hZ (C := "java/lang/String") (b := a1) (y := (⟨"java/lang/String", "length", "()I"⟩ : MethodName)) (z := (⟨"java/lang/String", "length", "()I"⟩ : MethodName)) hown (hw _ (List.mem_of_getElem? (i := 40) rfl)) (hw _ (List.mem_of_getElem? (i := 41) rfl)) (hw _ (List.mem_of_getElem? (i := 43) rfl)) (hw _ (List.mem_of_getElem? (i := 42) rfl)) (hw _ (List.mem_of_getElem? (i := 44) rfl)) (hw _ (List.mem_of_getElem? (i := 4) rfl)) (notFace_of_selects (args := #[]) (mvT hZ (hw _ (List.mem_of_getElem? (i := 43) rfl)))) (by decide) (W := 1) (argsL := []) (rest := [(.int (0 : Int32))]) (rm9s l Z a0 hw [] a1 G1 3 f h0 n0 Z0 O2 P3 (OL.keep K0 all0) hs (by decide)) (by decide) (by decide) (by decide) (by decide) e0 hs.1 (g := (mkF m 4 #[.val (.ref a1), .val (.int (0 : Int32))] [(.ref a1), (.int (0 : Int32))])) rfl (by rw [hml]; rfl) (lenOf pd_8n3_0 rfl) rfl (by show 2 * 0 + _ ≤ _; exact Nat.le_of_eq rfl) (hb hby d8_4))
  refine Goes.step st1 ?_
  show Goes p e below s _ _ _ T1 (mkF m 7 #[.val (.ref a1), .val (.int (0 : Int32))] [(.int (Int32.ofNat 3)), (.int (0 : Int32))])
  refine Goes.step (fun _ k => XS.icmpNo X1.here hx rfl (hb hby d8_7) rfl (tlt (by decide : (0 : Int32) < (Int32.ofNat 3))).2.1 k) ?_
  show Goes p e below s _ _ _ T1 (mkF m 10 #[.val (.ref a1), .val (.int (0 : Int32))] [])
  refine Goes.step (fun _ k => XS.aloadN X1.here hx rfl (hb hby d8_10) rfl rfl k) ?_
  refine Goes.step (fun _ k => XS.iloadN X1.here hx rfl (hb hby d8_11) rfl k) ?_
  show Goes p e below s _ _ _ T1 (mkF m 12 #[.val (.ref a1), .val (.int (0 : Int32))] [(.int (0 : Int32)), (.ref a1)])
  obtain ⟨T2, X2, e2, st2⟩ := own_pure (r := some (.int (f 0))) (fun _ _ _ q => q) (callXV X1 hx hZ (C := "java/lang/String") (b := a1) (y := (⟨"java/lang/String", "charAt", "(I)C"⟩ : MethodName)) (z := (⟨"java/lang/String", "charAt", "(I)C"⟩ : MethodName)) hown (hw _ (List.mem_of_getElem? (i := 50) rfl)) (hw _ (List.mem_of_getElem? (i := 51) rfl)) (hw _ (List.mem_of_getElem? (i := 53) rfl)) (hw _ (List.mem_of_getElem? (i := 52) rfl)) (hw _ (List.mem_of_getElem? (i := 54) rfl)) (hw _ (List.mem_of_getElem? (i := 4) rfl)) (notFace_of_selects (args := #[]) (mvT hZ (hw _ (List.mem_of_getElem? (i := 53) rfl)))) (by decide) (W := 0) (argsL := [(.int (0 : Int32))]) (rest := []) (rm11s l Z a0 hw [] a1 (0 : Int32) G1 oF 3 f 0 h0 n0 Z0 O2 P3 (OL.keep K0 all0) O4 O5 O6 O7 hs (by decide) rfl (by decide)) (by decide) (by decide) (by decide) (by decide) e1 hs.1 (g := (mkF m 12 #[.val (.ref a1), .val (.int (0 : Int32))] [(.int (0 : Int32)), (.ref a1)])) rfl (by rw [hml]; rfl) (lenOf pd_8n3_1 rfl) rfl (by show 2 * 0 + _ ≤ _; exact Nat.le_of_eq rfl) (hb hby d8_12))
  refine Goes.step st2 ?_
  show Goes p e below s _ _ _ T2 (mkF m 15 #[.val (.ref a1), .val (.int (0 : Int32))] [(.int (f 0))])
  obtain ⟨T3, X3, e3, st3⟩ := callPure X2 hx hZ (y := (⟨"com/example/cartouche/cartouche/ControlCharacters", "isControl", "(C)Z"⟩ : MethodName)) hown (hw _ (List.mem_of_getElem? (i := 72) rfl)) (hw _ (List.mem_of_getElem? (i := 73) rfl)) (hw _ (List.mem_of_getElem? (i := 38) rfl)) (hw _ (List.mem_of_getElem? (i := 74) rfl)) (by decide) (W := 0) (argsL := [(.int (f 0))]) (rest := []) (r := (.int (f16 (f 0)))) (fun _ _ _ q => q) (rm16 l Z a0 hw [] (f 0) h0 ) (by decide) (by decide) (by decide) (by decide) e2 (g := (mkF m 15 #[.val (.ref a1), .val (.int (0 : Int32))] [(.int (f 0))])) rfl (by rw [hml]; rfl) (lenOf pd_8n3_2 rfl) rfl (by show 2 * 0 + _ ≤ _; exact Nat.le_of_eq rfl) (hb hby d8_15)
  refine Goes.step st3 ?_
  show Goes p e below s _ _ _ T3 (mkF m 18 #[.val (.ref a1), .val (.int (0 : Int32))] [(.int (f16 (f 0)))])
  by_cases hc18 : (f16 (f 0)) = (0 : Int32)
  · refine Goes.step (fun _ k => XS.ifYes X3.here hx rfl (pc0 := 18) (pc' := 23) rfl (hb hby d8_18) rfl ((if0 _ _).trans (teq hc18).1) (by decide) (by decide) k) ?_
    show Goes p e below s _ _ _ T3 (mkF m 23 #[.val (.ref a1), .val (.int (0 : Int32))] [])
    refine Goes.step (fun _ k => XS.iinc X3.here hx rfl (hb hby d8_23) rfl (l' := #[.val (.ref a1), .val (.int (1 : Int32))]) rfl k) ?_
    show Goes p e below s _ _ _ T3 (mkF m 26 #[.val (.ref a1), .val (.int (1 : Int32))] [])
    refine Goes.step (fun _ k => XS.goto X3.here hx rfl (pc0 := 26) (pc' := 2) rfl (hb hby d8_26) (by decide) (by decide) k) ?_
    refine Goes.step (fun _ k => XS.iloadN X3.here hx rfl (hb hby d8_2) rfl k) ?_
    show Goes p e below s _ _ _ T3 (mkF m 3 #[.val (.ref a1), .val (.int (1 : Int32))] [(.int (1 : Int32))])
    refine Goes.step (fun _ k => XS.aloadN X3.here hx rfl (hb hby d8_3) rfl rfl k) ?_
    obtain ⟨T4, X4, e4, st4⟩ := own_pure (r := some (.int (Int32.ofNat 3))) (fun _ _ _ q => q) (callXV X3 hx hZ (C := "java/lang/String") (b := a1) (y := (⟨"java/lang/String", "length", "()I"⟩ : MethodName)) (z := (⟨"java/lang/String", "length", "()I"⟩ : MethodName)) hown (hw _ (List.mem_of_getElem? (i := 40) rfl)) (hw _ (List.mem_of_getElem? (i := 41) rfl)) (hw _ (List.mem_of_getElem? (i := 43) rfl)) (hw _ (List.mem_of_getElem? (i := 42) rfl)) (hw _ (List.mem_of_getElem? (i := 44) rfl)) (hw _ (List.mem_of_getElem? (i := 4) rfl)) (notFace_of_selects (args := #[]) (mvT hZ (hw _ (List.mem_of_getElem? (i := 43) rfl)))) (by decide) (W := 1) (argsL := []) (rest := [(.int (1 : Int32))]) (rm9s l Z a0 hw [] a1 G1 3 f h0 n0 Z0 O2 P3 (OL.keep K0 all0) hs (by decide)) (by decide) (by decide) (by decide) (by decide) e3 hs.1 (g := (mkF m 4 #[.val (.ref a1), .val (.int (1 : Int32))] [(.ref a1), (.int (1 : Int32))])) rfl (by rw [hml]; rfl) (lenOf pd_8n3_0 rfl) rfl (by show 2 * 0 + _ ≤ _; exact Nat.le_of_eq rfl) (hb hby d8_4))
    refine Goes.step st4 ?_
    show Goes p e below s _ _ _ T4 (mkF m 7 #[.val (.ref a1), .val (.int (1 : Int32))] [(.int (Int32.ofNat 3)), (.int (1 : Int32))])
    refine Goes.step (fun _ k => XS.icmpNo X4.here hx rfl (hb hby d8_7) rfl (tlt (by decide : (1 : Int32) < (Int32.ofNat 3))).2.1 k) ?_
    show Goes p e below s _ _ _ T4 (mkF m 10 #[.val (.ref a1), .val (.int (1 : Int32))] [])
    refine Goes.step (fun _ k => XS.aloadN X4.here hx rfl (hb hby d8_10) rfl rfl k) ?_
    refine Goes.step (fun _ k => XS.iloadN X4.here hx rfl (hb hby d8_11) rfl k) ?_
    show Goes p e below s _ _ _ T4 (mkF m 12 #[.val (.ref a1), .val (.int (1 : Int32))] [(.int (1 : Int32)), (.ref a1)])
    obtain ⟨T5, X5, e5, st5⟩ := own_pure (r := some (.int (f 1))) (fun _ _ _ q => q) (callXV X4 hx hZ (C := "java/lang/String") (b := a1) (y := (⟨"java/lang/String", "charAt", "(I)C"⟩ : MethodName)) (z := (⟨"java/lang/String", "charAt", "(I)C"⟩ : MethodName)) hown (hw _ (List.mem_of_getElem? (i := 50) rfl)) (hw _ (List.mem_of_getElem? (i := 51) rfl)) (hw _ (List.mem_of_getElem? (i := 53) rfl)) (hw _ (List.mem_of_getElem? (i := 52) rfl)) (hw _ (List.mem_of_getElem? (i := 54) rfl)) (hw _ (List.mem_of_getElem? (i := 4) rfl)) (notFace_of_selects (args := #[]) (mvT hZ (hw _ (List.mem_of_getElem? (i := 53) rfl)))) (by decide) (W := 0) (argsL := [(.int (1 : Int32))]) (rest := []) (rm11s l Z a0 hw [] a1 (1 : Int32) G1 oF 3 f 1 h0 n0 Z0 O2 P3 (OL.keep K0 all0) O4 O5 O6 O7 hs (by decide) rfl (by decide)) (by decide) (by decide) (by decide) (by decide) e4 hs.1 (g := (mkF m 12 #[.val (.ref a1), .val (.int (1 : Int32))] [(.int (1 : Int32)), (.ref a1)])) rfl (by rw [hml]; rfl) (lenOf pd_8n3_1 rfl) rfl (by show 2 * 0 + _ ≤ _; exact Nat.le_of_eq rfl) (hb hby d8_12))
    refine Goes.step st5 ?_
    show Goes p e below s _ _ _ T5 (mkF m 15 #[.val (.ref a1), .val (.int (1 : Int32))] [(.int (f 1))])
    obtain ⟨T6, X6, e6, st6⟩ := callPure X5 hx hZ (y := (⟨"com/example/cartouche/cartouche/ControlCharacters", "isControl", "(C)Z"⟩ : MethodName)) hown (hw _ (List.mem_of_getElem? (i := 72) rfl)) (hw _ (List.mem_of_getElem? (i := 73) rfl)) (hw _ (List.mem_of_getElem? (i := 38) rfl)) (hw _ (List.mem_of_getElem? (i := 74) rfl)) (by decide) (W := 0) (argsL := [(.int (f 1))]) (rest := []) (r := (.int (f16 (f 1)))) (fun _ _ _ q => q) (rm16 l Z a0 hw [] (f 1) h0 ) (by decide) (by decide) (by decide) (by decide) e5 (g := (mkF m 15 #[.val (.ref a1), .val (.int (1 : Int32))] [(.int (f 1))])) rfl (by rw [hml]; rfl) (lenOf pd_8n3_2 rfl) rfl (by show 2 * 0 + _ ≤ _; exact Nat.le_of_eq rfl) (hb hby d8_15)
    refine Goes.step st6 ?_
    show Goes p e below s _ _ _ T6 (mkF m 18 #[.val (.ref a1), .val (.int (1 : Int32))] [(.int (f16 (f 1)))])
    by_cases hc18_1 : (f16 (f 1)) = (0 : Int32)
    · refine Goes.step (fun _ k => XS.ifYes X6.here hx rfl (pc0 := 18) (pc' := 23) rfl (hb hby d8_18) rfl ((if0 _ _).trans (teq hc18_1).1) (by decide) (by decide) k) ?_
      show Goes p e below s _ _ _ T6 (mkF m 23 #[.val (.ref a1), .val (.int (1 : Int32))] [])
      refine Goes.step (fun _ k => XS.iinc X6.here hx rfl (hb hby d8_23) rfl (l' := #[.val (.ref a1), .val (.int (2 : Int32))]) rfl k) ?_
      show Goes p e below s _ _ _ T6 (mkF m 26 #[.val (.ref a1), .val (.int (2 : Int32))] [])
      refine Goes.step (fun _ k => XS.goto X6.here hx rfl (pc0 := 26) (pc' := 2) rfl (hb hby d8_26) (by decide) (by decide) k) ?_
      refine Goes.step (fun _ k => XS.iloadN X6.here hx rfl (hb hby d8_2) rfl k) ?_
      show Goes p e below s _ _ _ T6 (mkF m 3 #[.val (.ref a1), .val (.int (2 : Int32))] [(.int (2 : Int32))])
      refine Goes.step (fun _ k => XS.aloadN X6.here hx rfl (hb hby d8_3) rfl rfl k) ?_
      obtain ⟨T7, X7, e7, st7⟩ := own_pure (r := some (.int (Int32.ofNat 3))) (fun _ _ _ q => q) (callXV X6 hx hZ (C := "java/lang/String") (b := a1) (y := (⟨"java/lang/String", "length", "()I"⟩ : MethodName)) (z := (⟨"java/lang/String", "length", "()I"⟩ : MethodName)) hown (hw _ (List.mem_of_getElem? (i := 40) rfl)) (hw _ (List.mem_of_getElem? (i := 41) rfl)) (hw _ (List.mem_of_getElem? (i := 43) rfl)) (hw _ (List.mem_of_getElem? (i := 42) rfl)) (hw _ (List.mem_of_getElem? (i := 44) rfl)) (hw _ (List.mem_of_getElem? (i := 4) rfl)) (notFace_of_selects (args := #[]) (mvT hZ (hw _ (List.mem_of_getElem? (i := 43) rfl)))) (by decide) (W := 1) (argsL := []) (rest := [(.int (2 : Int32))]) (rm9s l Z a0 hw [] a1 G1 3 f h0 n0 Z0 O2 P3 (OL.keep K0 all0) hs (by decide)) (by decide) (by decide) (by decide) (by decide) e6 hs.1 (g := (mkF m 4 #[.val (.ref a1), .val (.int (2 : Int32))] [(.ref a1), (.int (2 : Int32))])) rfl (by rw [hml]; rfl) (lenOf pd_8n3_0 rfl) rfl (by show 2 * 0 + _ ≤ _; exact Nat.le_of_eq rfl) (hb hby d8_4))
      refine Goes.step st7 ?_
      show Goes p e below s _ _ _ T7 (mkF m 7 #[.val (.ref a1), .val (.int (2 : Int32))] [(.int (Int32.ofNat 3)), (.int (2 : Int32))])
      refine Goes.step (fun _ k => XS.icmpNo X7.here hx rfl (hb hby d8_7) rfl (tlt (by decide : (2 : Int32) < (Int32.ofNat 3))).2.1 k) ?_
      show Goes p e below s _ _ _ T7 (mkF m 10 #[.val (.ref a1), .val (.int (2 : Int32))] [])
      refine Goes.step (fun _ k => XS.aloadN X7.here hx rfl (hb hby d8_10) rfl rfl k) ?_
      refine Goes.step (fun _ k => XS.iloadN X7.here hx rfl (hb hby d8_11) rfl k) ?_
      show Goes p e below s _ _ _ T7 (mkF m 12 #[.val (.ref a1), .val (.int (2 : Int32))] [(.int (2 : Int32)), (.ref a1)])
      obtain ⟨T8, X8, e8, st8⟩ := own_pure (r := some (.int (f 2))) (fun _ _ _ q => q) (callXV X7 hx hZ (C := "java/lang/String") (b := a1) (y := (⟨"java/lang/String", "charAt", "(I)C"⟩ : MethodName)) (z := (⟨"java/lang/String", "charAt", "(I)C"⟩ : MethodName)) hown (hw _ (List.mem_of_getElem? (i := 50) rfl)) (hw _ (List.mem_of_getElem? (i := 51) rfl)) (hw _ (List.mem_of_getElem? (i := 53) rfl)) (hw _ (List.mem_of_getElem? (i := 52) rfl)) (hw _ (List.mem_of_getElem? (i := 54) rfl)) (hw _ (List.mem_of_getElem? (i := 4) rfl)) (notFace_of_selects (args := #[]) (mvT hZ (hw _ (List.mem_of_getElem? (i := 53) rfl)))) (by decide) (W := 0) (argsL := [(.int (2 : Int32))]) (rest := []) (rm11s l Z a0 hw [] a1 (2 : Int32) G1 oF 3 f 2 h0 n0 Z0 O2 P3 (OL.keep K0 all0) O4 O5 O6 O7 hs (by decide) rfl (by decide)) (by decide) (by decide) (by decide) (by decide) e7 hs.1 (g := (mkF m 12 #[.val (.ref a1), .val (.int (2 : Int32))] [(.int (2 : Int32)), (.ref a1)])) rfl (by rw [hml]; rfl) (lenOf pd_8n3_1 rfl) rfl (by show 2 * 0 + _ ≤ _; exact Nat.le_of_eq rfl) (hb hby d8_12))
      refine Goes.step st8 ?_
      show Goes p e below s _ _ _ T8 (mkF m 15 #[.val (.ref a1), .val (.int (2 : Int32))] [(.int (f 2))])
      obtain ⟨T9, X9, e9, st9⟩ := callPure X8 hx hZ (y := (⟨"com/example/cartouche/cartouche/ControlCharacters", "isControl", "(C)Z"⟩ : MethodName)) hown (hw _ (List.mem_of_getElem? (i := 72) rfl)) (hw _ (List.mem_of_getElem? (i := 73) rfl)) (hw _ (List.mem_of_getElem? (i := 38) rfl)) (hw _ (List.mem_of_getElem? (i := 74) rfl)) (by decide) (W := 0) (argsL := [(.int (f 2))]) (rest := []) (r := (.int (f16 (f 2)))) (fun _ _ _ q => q) (rm16 l Z a0 hw [] (f 2) h0 ) (by decide) (by decide) (by decide) (by decide) e8 (g := (mkF m 15 #[.val (.ref a1), .val (.int (2 : Int32))] [(.int (f 2))])) rfl (by rw [hml]; rfl) (lenOf pd_8n3_2 rfl) rfl (by show 2 * 0 + _ ≤ _; exact Nat.le_of_eq rfl) (hb hby d8_15)
      refine Goes.step st9 ?_
      show Goes p e below s _ _ _ T9 (mkF m 18 #[.val (.ref a1), .val (.int (2 : Int32))] [(.int (f16 (f 2)))])
      by_cases hc18_2 : (f16 (f 2)) = (0 : Int32)
      · refine Goes.step (fun _ k => XS.ifYes X9.here hx rfl (pc0 := 18) (pc' := 23) rfl (hb hby d8_18) rfl ((if0 _ _).trans (teq hc18_2).1) (by decide) (by decide) k) ?_
        show Goes p e below s _ _ _ T9 (mkF m 23 #[.val (.ref a1), .val (.int (2 : Int32))] [])
        refine Goes.step (fun _ k => XS.iinc X9.here hx rfl (hb hby d8_23) rfl (l' := #[.val (.ref a1), .val (.int (3 : Int32))]) rfl k) ?_
        show Goes p e below s _ _ _ T9 (mkF m 26 #[.val (.ref a1), .val (.int (3 : Int32))] [])
        refine Goes.step (fun _ k => XS.goto X9.here hx rfl (pc0 := 26) (pc' := 2) rfl (hb hby d8_26) (by decide) (by decide) k) ?_
        refine Goes.step (fun _ k => XS.iloadN X9.here hx rfl (hb hby d8_2) rfl k) ?_
        show Goes p e below s _ _ _ T9 (mkF m 3 #[.val (.ref a1), .val (.int (3 : Int32))] [(.int (3 : Int32))])
        refine Goes.step (fun _ k => XS.aloadN X9.here hx rfl (hb hby d8_3) rfl rfl k) ?_
        obtain ⟨T10, X10, e10, st10⟩ := own_pure (r := some (.int (Int32.ofNat 3))) (fun _ _ _ q => q) (callXV X9 hx hZ (C := "java/lang/String") (b := a1) (y := (⟨"java/lang/String", "length", "()I"⟩ : MethodName)) (z := (⟨"java/lang/String", "length", "()I"⟩ : MethodName)) hown (hw _ (List.mem_of_getElem? (i := 40) rfl)) (hw _ (List.mem_of_getElem? (i := 41) rfl)) (hw _ (List.mem_of_getElem? (i := 43) rfl)) (hw _ (List.mem_of_getElem? (i := 42) rfl)) (hw _ (List.mem_of_getElem? (i := 44) rfl)) (hw _ (List.mem_of_getElem? (i := 4) rfl)) (notFace_of_selects (args := #[]) (mvT hZ (hw _ (List.mem_of_getElem? (i := 43) rfl)))) (by decide) (W := 1) (argsL := []) (rest := [(.int (3 : Int32))]) (rm9s l Z a0 hw [] a1 G1 3 f h0 n0 Z0 O2 P3 (OL.keep K0 all0) hs (by decide)) (by decide) (by decide) (by decide) (by decide) e9 hs.1 (g := (mkF m 4 #[.val (.ref a1), .val (.int (3 : Int32))] [(.ref a1), (.int (3 : Int32))])) rfl (by rw [hml]; rfl) (lenOf pd_8n3_0 rfl) rfl (by show 2 * 0 + _ ≤ _; exact Nat.le_of_eq rfl) (hb hby d8_4))
        refine Goes.step st10 ?_
        show Goes p e below s _ _ _ T10 (mkF m 7 #[.val (.ref a1), .val (.int (3 : Int32))] [(.int (Int32.ofNat 3)), (.int (3 : Int32))])
        refine Goes.step (fun _ k => XS.icmpYes X10.here hx rfl (pc0 := 7) (pc' := 29) rfl (hb hby d8_7) rfl (flt (by decide : ¬ ((3 : Int32) < (Int32.ofNat 3)))).2.1 (by decide) (by decide) k) ?_
        show Goes p e below s _ _ _ T10 (mkF m 29 #[.val (.ref a1), .val (.int (3 : Int32))] [])
        refine Goes.step (fun _ k => XS.iconst X10.here hx rfl (hb hby d8_29) k) ?_
        show Goes p e below s _ _ _ T10 (mkF m 30 #[.val (.ref a1), .val (.int (3 : Int32))] [(.int (-1 : Int32))])
        exact Goes.outI X10 hx hlk Bd.returns (hb hby d8_30) (by rw [e10]; exact ⟨by rw [own_x3]; simp only [if_pos hc18, if_pos hc18_1, if_pos hc18_2], rfl, rfl⟩) (by decide) (by decide)
      · refine Goes.step (fun _ k => XS.ifNo X9.here hx rfl (hb hby d8_18) rfl ((if0 _ _).trans (feq hc18_2).1) k) ?_
        show Goes p e below s _ _ _ T9 (mkF m 21 #[.val (.ref a1), .val (.int (2 : Int32))] [])
        refine Goes.step (fun _ k => XS.iloadN X9.here hx rfl (hb hby d8_21) rfl k) ?_
        show Goes p e below s _ _ _ T9 (mkF m 22 #[.val (.ref a1), .val (.int (2 : Int32))] [(.int (2 : Int32))])
        exact Goes.outI X9 hx hlk Bd.returns (hb hby d8_22) (by rw [e9]; exact ⟨by rw [own_x3]; simp only [if_pos hc18, if_pos hc18_1, if_neg hc18_2], rfl, rfl⟩) (by decide) (by decide)
    · refine Goes.step (fun _ k => XS.ifNo X6.here hx rfl (hb hby d8_18) rfl ((if0 _ _).trans (feq hc18_1).1) k) ?_
      show Goes p e below s _ _ _ T6 (mkF m 21 #[.val (.ref a1), .val (.int (1 : Int32))] [])
      refine Goes.step (fun _ k => XS.iloadN X6.here hx rfl (hb hby d8_21) rfl k) ?_
      show Goes p e below s _ _ _ T6 (mkF m 22 #[.val (.ref a1), .val (.int (1 : Int32))] [(.int (1 : Int32))])
      exact Goes.outI X6 hx hlk Bd.returns (hb hby d8_22) (by rw [e6]; exact ⟨by rw [own_x3]; simp only [if_pos hc18, if_neg hc18_1], rfl, rfl⟩) (by decide) (by decide)
  · refine Goes.step (fun _ k => XS.ifNo X3.here hx rfl (hb hby d8_18) rfl ((if0 _ _).trans (feq hc18).1) k) ?_
    show Goes p e below s _ _ _ T3 (mkF m 21 #[.val (.ref a1), .val (.int (0 : Int32))] [])
    refine Goes.step (fun _ k => XS.iloadN X3.here hx rfl (hb hby d8_21) rfl k) ?_
    show Goes p e below s _ _ _ T3 (mkF m 22 #[.val (.ref a1), .val (.int (0 : Int32))] [(.int (0 : Int32))])
    exact Goes.outI X3 hx hlk Bd.returns (hb hby d8_22) (by rw [e3]; exact ⟨by rw [own_x3]; simp only [if_neg hc18], rfl, rfl⟩) (by decide) (by decide)
theorem pd_8n4_0 : parseMethodDescriptor "()I" = some ⟨[], some .int⟩ := by decide +kernel
theorem pd_8n4_1 : parseMethodDescriptor "(I)C" = some ⟨[.int], some .char⟩ := by decide +kernel
theorem pd_8n4_2 : parseMethodDescriptor "(C)Z" = some ⟨[.char], some .boolean⟩ := by decide +kernel
theorem ef_8n4 (m : MethodId) (a1 : Addr) : entryFrame m #[(.ref a1)] 2 = mkF m 0 #[.val (.ref a1), .unset] [] := by first | (simp [entryFrame, mkF, argsToLocals, Value.category]; done) | rfl
def Q8n4 (Z : State) (a1 : Addr) (G1 : Int32) (oF : Option Addr) (f : Nat → Int32) (h0 : Heap) (n0 : Nat) (v : Option Value) (h : Heap) (L : List Loc) : Prop := PQ h0 (some (.int (own_ix (fun i => f16 (f i)) 4 0))) v h L
set_option maxRecDepth 65536 in
set_option maxHeartbeats 40000000 in
theorem rm8n4 (l : Launch) (Z : State) (a0 : Array Value) (hw : ∀ d ∈ tables_1, d.before a0 Z = true) (ws : List Jvm.Cond) (a1 : Addr) (G1 : Int32) (oF : Option Addr) (f : Nat → Int32) (h0 : Heap) (n0 : Nat) (Z0 : n0 ≤ h0.size) (O2 : Sta Z Z.heap "java/lang/String" "COMPACT_STRINGS" "Z" (.int G1)) (P3 : ¬ (G1 = (0 : Int32))) (OL : Old Z n0 h0) (O4 : Sta Z Z.heap "jdk/internal/util/Preconditions" "SIOOBE_FORMATTER" "Ljava/util/function/BiFunction;" (ov oF)) (O5 : Sta Z Z.heap "java/lang/StringUTF16" "$assertionsDisabled" "Z" (.int (1 : Int32))) (O6 : Sta Z Z.heap "java/lang/StringUTF16" "HI_BYTE_SHIFT" "I" (.int (0 : Int32))) (O7 : Sta Z Z.heap "java/lang/StringUTF16" "LO_BYTE_SHIFT" "I" (.int (8 : Int32))) (hs : Str Z h0 a1 4 f) :
    MetFree l (⟨"com/example/cartouche/cartouche/ControlCharacters", "indexIn", "(Ljava/lang/String;)I"⟩ : MethodName) (head1 (Jvm.Cond.code (⟨"com/example/cartouche/cartouche/ControlCharacters", "indexIn", "(Ljava/lang/String;)I"⟩ : MethodName) prog_1_method_4_code 2 (some .int) :: ws) ({ frames := 5, cells := 0, slots := 0, locals := 66 } : Room)) (fun a U => a = #[(.ref a1)] ∧ Z.Warmed39 U.vm ∧ U.heap = h0) (fun _ _ _ _ _ => True) (fun _ U o U' => ∃ v L, o = .returned v ∧ Q8n4 Z a1 G1 oF f h0 n0 v U'.heap L ∧ FrameEnd U o U' L ({ frames := 5, cells := 0, slots := 0, locals := 66 } : Room).cells ({ frames := 5, cells := 0, slots := 0, locals := 66 } : Room).slots) := by
  refine MetFree.of_bodySF (plainFor_of_name pn_8) hisR ?_
  intro p e s m args below meth c s₁ Bd hml0 hP hK
  obtain ⟨rfl, hZ, hh⟩ := hP
  have hx := Bd.exec
  have hby := Bd.bytes
  have hlk := Bd.notSynchronized
  have hml : c.maxLocals = 2 := hml0
  have hown : s.vm.findClass "com/example/cartouche/cartouche/ControlCharacters" = some m.cls := findClass_of_methodNamed Bd.named
  have hnm := (name_of_methodNamed Bd.named Bd.method).1
  have X0 : Stand p l e ({ frames := 5, cells := 0, slots := 0, locals := 66 } : Room) s m #[(.ref a1)] below meth c s₁ [] 0 0 := Stand.of_body Bd
  have e0 : s₁.heap = h0 := by rw [← hh, Bd.state]; rfl
  have N0 := Fr.nil n0
  have K0 : Keep h0 h0 [] := Keep.refl h0 _
  show Goes p e below s ({ frames := 5, cells := 0, slots := 0, locals := 66 } : Room).cells ({ frames := 5, cells := 0, slots := 0, locals := 66 } : Room).slots (Q8n4 Z a1 G1 oF f h0 n0) s₁ (entryFrame m #[(.ref a1)] 2)
  refine Goes.step (fun t k => castTop (ef_8n4 m a1) k) ?_
  refine Goes.step (fun _ k => XS.iconst X0.here hx rfl (hb hby d8_0) k) ?_
  refine Goes.step (fun _ k => XS.istoreN X0.here hx rfl (hb hby d8_1) rfl (l' := #[.val (.ref a1), .val (.int (0 : Int32))]) rfl k) ?_
  show Goes p e below s _ _ _ s₁ (mkF m 2 #[.val (.ref a1), .val (.int (0 : Int32))] [])
  refine Goes.step (fun _ k => XS.iloadN X0.here hx rfl (hb hby d8_2) rfl k) ?_
  refine Goes.step (fun _ k => XS.aloadN X0.here hx rfl (hb hby d8_3) rfl rfl k) ?_
  show Goes p e below s _ _ _ s₁ (mkF m 4 #[.val (.ref a1), .val (.int (0 : Int32))] [(.ref a1), (.int (0 : Int32))])
  obtain ⟨T1, X1, e1, st1⟩ := own_pure (r := some (.int (Int32.ofNat 4))) (fun _ _ _ q => q) (callXV X0 hx hZ (C := "java/lang/String") (b := a1) (y := (⟨"java/lang/String", "length", "()I"⟩ : MethodName)) (z := (⟨"java/lang/String", "length", "()I"⟩ : MethodName)) hown (hw _ (List.mem_of_getElem? (i := 40) rfl)) (hw _ (List.mem_of_getElem? (i := 41) rfl)) (hw _ (List.mem_of_getElem? (i := 43) rfl)) (hw _ (List.mem_of_getElem? (i := 42) rfl)) (hw _ (List.mem_of_getElem? (i := 44) rfl)) (hw _ (List.mem_of_getElem? (i := 4) rfl)) (notFace_of_selects (args := #[]) (mvT hZ (hw _ (List.mem_of_getElem? (i := 43) rfl)))) (by decide) (W := 1) (argsL := []) (rest := [(.int (0 : Int32))]) (rm9s l Z a0 hw [] a1 G1 4 f h0 n0 Z0 O2 P3 (OL.keep K0 all0) hs (by decide)) (by decide) (by decide) (by decide) (by decide) e0 hs.1 (g := (mkF m 4 #[.val (.ref a1), .val (.int (0 : Int32))] [(.ref a1), (.int (0 : Int32))])) rfl (by rw [hml]; rfl) (lenOf pd_8n4_0 rfl) rfl (by show 2 * 0 + _ ≤ _; exact Nat.le_of_eq rfl) (hb hby d8_4))
  refine Goes.step st1 ?_
  show Goes p e below s _ _ _ T1 (mkF m 7 #[.val (.ref a1), .val (.int (0 : Int32))] [(.int (Int32.ofNat 4)), (.int (0 : Int32))])
  refine Goes.step (fun _ k => XS.icmpNo X1.here hx rfl (hb hby d8_7) rfl (tlt (by decide : (0 : Int32) < (Int32.ofNat 4))).2.1 k) ?_
  show Goes p e below s _ _ _ T1 (mkF m 10 #[.val (.ref a1), .val (.int (0 : Int32))] [])
  refine Goes.step (fun _ k => XS.aloadN X1.here hx rfl (hb hby d8_10) rfl rfl k) ?_
  refine Goes.step (fun _ k => XS.iloadN X1.here hx rfl (hb hby d8_11) rfl k) ?_
  show Goes p e below s _ _ _ T1 (mkF m 12 #[.val (.ref a1), .val (.int (0 : Int32))] [(.int (0 : Int32)), (.ref a1)])
  obtain ⟨T2, X2, e2, st2⟩ := own_pure (r := some (.int (f 0))) (fun _ _ _ q => q) (callXV X1 hx hZ (C := "java/lang/String") (b := a1) (y := (⟨"java/lang/String", "charAt", "(I)C"⟩ : MethodName)) (z := (⟨"java/lang/String", "charAt", "(I)C"⟩ : MethodName)) hown (hw _ (List.mem_of_getElem? (i := 50) rfl)) (hw _ (List.mem_of_getElem? (i := 51) rfl)) (hw _ (List.mem_of_getElem? (i := 53) rfl)) (hw _ (List.mem_of_getElem? (i := 52) rfl)) (hw _ (List.mem_of_getElem? (i := 54) rfl)) (hw _ (List.mem_of_getElem? (i := 4) rfl)) (notFace_of_selects (args := #[]) (mvT hZ (hw _ (List.mem_of_getElem? (i := 53) rfl)))) (by decide) (W := 0) (argsL := [(.int (0 : Int32))]) (rest := []) (rm11s l Z a0 hw [] a1 (0 : Int32) G1 oF 4 f 0 h0 n0 Z0 O2 P3 (OL.keep K0 all0) O4 O5 O6 O7 hs (by decide) rfl (by decide)) (by decide) (by decide) (by decide) (by decide) e1 hs.1 (g := (mkF m 12 #[.val (.ref a1), .val (.int (0 : Int32))] [(.int (0 : Int32)), (.ref a1)])) rfl (by rw [hml]; rfl) (lenOf pd_8n4_1 rfl) rfl (by show 2 * 0 + _ ≤ _; exact Nat.le_of_eq rfl) (hb hby d8_12))
  refine Goes.step st2 ?_
  show Goes p e below s _ _ _ T2 (mkF m 15 #[.val (.ref a1), .val (.int (0 : Int32))] [(.int (f 0))])
  obtain ⟨T3, X3, e3, st3⟩ := callPure X2 hx hZ (y := (⟨"com/example/cartouche/cartouche/ControlCharacters", "isControl", "(C)Z"⟩ : MethodName)) hown (hw _ (List.mem_of_getElem? (i := 72) rfl)) (hw _ (List.mem_of_getElem? (i := 73) rfl)) (hw _ (List.mem_of_getElem? (i := 38) rfl)) (hw _ (List.mem_of_getElem? (i := 74) rfl)) (by decide) (W := 0) (argsL := [(.int (f 0))]) (rest := []) (r := (.int (f16 (f 0)))) (fun _ _ _ q => q) (rm16 l Z a0 hw [] (f 0) h0 ) (by decide) (by decide) (by decide) (by decide) e2 (g := (mkF m 15 #[.val (.ref a1), .val (.int (0 : Int32))] [(.int (f 0))])) rfl (by rw [hml]; rfl) (lenOf pd_8n4_2 rfl) rfl (by show 2 * 0 + _ ≤ _; exact Nat.le_of_eq rfl) (hb hby d8_15)
  refine Goes.step st3 ?_
  show Goes p e below s _ _ _ T3 (mkF m 18 #[.val (.ref a1), .val (.int (0 : Int32))] [(.int (f16 (f 0)))])
  by_cases hc18 : (f16 (f 0)) = (0 : Int32)
  · refine Goes.step (fun _ k => XS.ifYes X3.here hx rfl (pc0 := 18) (pc' := 23) rfl (hb hby d8_18) rfl ((if0 _ _).trans (teq hc18).1) (by decide) (by decide) k) ?_
    show Goes p e below s _ _ _ T3 (mkF m 23 #[.val (.ref a1), .val (.int (0 : Int32))] [])
    refine Goes.step (fun _ k => XS.iinc X3.here hx rfl (hb hby d8_23) rfl (l' := #[.val (.ref a1), .val (.int (1 : Int32))]) rfl k) ?_
    show Goes p e below s _ _ _ T3 (mkF m 26 #[.val (.ref a1), .val (.int (1 : Int32))] [])
    refine Goes.step (fun _ k => XS.goto X3.here hx rfl (pc0 := 26) (pc' := 2) rfl (hb hby d8_26) (by decide) (by decide) k) ?_
    refine Goes.step (fun _ k => XS.iloadN X3.here hx rfl (hb hby d8_2) rfl k) ?_
    show Goes p e below s _ _ _ T3 (mkF m 3 #[.val (.ref a1), .val (.int (1 : Int32))] [(.int (1 : Int32))])
    refine Goes.step (fun _ k => XS.aloadN X3.here hx rfl (hb hby d8_3) rfl rfl k) ?_
    obtain ⟨T4, X4, e4, st4⟩ := own_pure (r := some (.int (Int32.ofNat 4))) (fun _ _ _ q => q) (callXV X3 hx hZ (C := "java/lang/String") (b := a1) (y := (⟨"java/lang/String", "length", "()I"⟩ : MethodName)) (z := (⟨"java/lang/String", "length", "()I"⟩ : MethodName)) hown (hw _ (List.mem_of_getElem? (i := 40) rfl)) (hw _ (List.mem_of_getElem? (i := 41) rfl)) (hw _ (List.mem_of_getElem? (i := 43) rfl)) (hw _ (List.mem_of_getElem? (i := 42) rfl)) (hw _ (List.mem_of_getElem? (i := 44) rfl)) (hw _ (List.mem_of_getElem? (i := 4) rfl)) (notFace_of_selects (args := #[]) (mvT hZ (hw _ (List.mem_of_getElem? (i := 43) rfl)))) (by decide) (W := 1) (argsL := []) (rest := [(.int (1 : Int32))]) (rm9s l Z a0 hw [] a1 G1 4 f h0 n0 Z0 O2 P3 (OL.keep K0 all0) hs (by decide)) (by decide) (by decide) (by decide) (by decide) e3 hs.1 (g := (mkF m 4 #[.val (.ref a1), .val (.int (1 : Int32))] [(.ref a1), (.int (1 : Int32))])) rfl (by rw [hml]; rfl) (lenOf pd_8n4_0 rfl) rfl (by show 2 * 0 + _ ≤ _; exact Nat.le_of_eq rfl) (hb hby d8_4))
    refine Goes.step st4 ?_
    show Goes p e below s _ _ _ T4 (mkF m 7 #[.val (.ref a1), .val (.int (1 : Int32))] [(.int (Int32.ofNat 4)), (.int (1 : Int32))])
    refine Goes.step (fun _ k => XS.icmpNo X4.here hx rfl (hb hby d8_7) rfl (tlt (by decide : (1 : Int32) < (Int32.ofNat 4))).2.1 k) ?_
    show Goes p e below s _ _ _ T4 (mkF m 10 #[.val (.ref a1), .val (.int (1 : Int32))] [])
    refine Goes.step (fun _ k => XS.aloadN X4.here hx rfl (hb hby d8_10) rfl rfl k) ?_
    refine Goes.step (fun _ k => XS.iloadN X4.here hx rfl (hb hby d8_11) rfl k) ?_
    show Goes p e below s _ _ _ T4 (mkF m 12 #[.val (.ref a1), .val (.int (1 : Int32))] [(.int (1 : Int32)), (.ref a1)])
    obtain ⟨T5, X5, e5, st5⟩ := own_pure (r := some (.int (f 1))) (fun _ _ _ q => q) (callXV X4 hx hZ (C := "java/lang/String") (b := a1) (y := (⟨"java/lang/String", "charAt", "(I)C"⟩ : MethodName)) (z := (⟨"java/lang/String", "charAt", "(I)C"⟩ : MethodName)) hown (hw _ (List.mem_of_getElem? (i := 50) rfl)) (hw _ (List.mem_of_getElem? (i := 51) rfl)) (hw _ (List.mem_of_getElem? (i := 53) rfl)) (hw _ (List.mem_of_getElem? (i := 52) rfl)) (hw _ (List.mem_of_getElem? (i := 54) rfl)) (hw _ (List.mem_of_getElem? (i := 4) rfl)) (notFace_of_selects (args := #[]) (mvT hZ (hw _ (List.mem_of_getElem? (i := 53) rfl)))) (by decide) (W := 0) (argsL := [(.int (1 : Int32))]) (rest := []) (rm11s l Z a0 hw [] a1 (1 : Int32) G1 oF 4 f 1 h0 n0 Z0 O2 P3 (OL.keep K0 all0) O4 O5 O6 O7 hs (by decide) rfl (by decide)) (by decide) (by decide) (by decide) (by decide) e4 hs.1 (g := (mkF m 12 #[.val (.ref a1), .val (.int (1 : Int32))] [(.int (1 : Int32)), (.ref a1)])) rfl (by rw [hml]; rfl) (lenOf pd_8n4_1 rfl) rfl (by show 2 * 0 + _ ≤ _; exact Nat.le_of_eq rfl) (hb hby d8_12))
    refine Goes.step st5 ?_
    show Goes p e below s _ _ _ T5 (mkF m 15 #[.val (.ref a1), .val (.int (1 : Int32))] [(.int (f 1))])
    obtain ⟨T6, X6, e6, st6⟩ := callPure X5 hx hZ (y := (⟨"com/example/cartouche/cartouche/ControlCharacters", "isControl", "(C)Z"⟩ : MethodName)) hown (hw _ (List.mem_of_getElem? (i := 72) rfl)) (hw _ (List.mem_of_getElem? (i := 73) rfl)) (hw _ (List.mem_of_getElem? (i := 38) rfl)) (hw _ (List.mem_of_getElem? (i := 74) rfl)) (by decide) (W := 0) (argsL := [(.int (f 1))]) (rest := []) (r := (.int (f16 (f 1)))) (fun _ _ _ q => q) (rm16 l Z a0 hw [] (f 1) h0 ) (by decide) (by decide) (by decide) (by decide) e5 (g := (mkF m 15 #[.val (.ref a1), .val (.int (1 : Int32))] [(.int (f 1))])) rfl (by rw [hml]; rfl) (lenOf pd_8n4_2 rfl) rfl (by show 2 * 0 + _ ≤ _; exact Nat.le_of_eq rfl) (hb hby d8_15)
    refine Goes.step st6 ?_
    show Goes p e below s _ _ _ T6 (mkF m 18 #[.val (.ref a1), .val (.int (1 : Int32))] [(.int (f16 (f 1)))])
    by_cases hc18_1 : (f16 (f 1)) = (0 : Int32)
    · refine Goes.step (fun _ k => XS.ifYes X6.here hx rfl (pc0 := 18) (pc' := 23) rfl (hb hby d8_18) rfl ((if0 _ _).trans (teq hc18_1).1) (by decide) (by decide) k) ?_
      show Goes p e below s _ _ _ T6 (mkF m 23 #[.val (.ref a1), .val (.int (1 : Int32))] [])
      refine Goes.step (fun _ k => XS.iinc X6.here hx rfl (hb hby d8_23) rfl (l' := #[.val (.ref a1), .val (.int (2 : Int32))]) rfl k) ?_
      show Goes p e below s _ _ _ T6 (mkF m 26 #[.val (.ref a1), .val (.int (2 : Int32))] [])
      refine Goes.step (fun _ k => XS.goto X6.here hx rfl (pc0 := 26) (pc' := 2) rfl (hb hby d8_26) (by decide) (by decide) k) ?_
      refine Goes.step (fun _ k => XS.iloadN X6.here hx rfl (hb hby d8_2) rfl k) ?_
      show Goes p e below s _ _ _ T6 (mkF m 3 #[.val (.ref a1), .val (.int (2 : Int32))] [(.int (2 : Int32))])
      refine Goes.step (fun _ k => XS.aloadN X6.here hx rfl (hb hby d8_3) rfl rfl k) ?_
      obtain ⟨T7, X7, e7, st7⟩ := own_pure (r := some (.int (Int32.ofNat 4))) (fun _ _ _ q => q) (callXV X6 hx hZ (C := "java/lang/String") (b := a1) (y := (⟨"java/lang/String", "length", "()I"⟩ : MethodName)) (z := (⟨"java/lang/String", "length", "()I"⟩ : MethodName)) hown (hw _ (List.mem_of_getElem? (i := 40) rfl)) (hw _ (List.mem_of_getElem? (i := 41) rfl)) (hw _ (List.mem_of_getElem? (i := 43) rfl)) (hw _ (List.mem_of_getElem? (i := 42) rfl)) (hw _ (List.mem_of_getElem? (i := 44) rfl)) (hw _ (List.mem_of_getElem? (i := 4) rfl)) (notFace_of_selects (args := #[]) (mvT hZ (hw _ (List.mem_of_getElem? (i := 43) rfl)))) (by decide) (W := 1) (argsL := []) (rest := [(.int (2 : Int32))]) (rm9s l Z a0 hw [] a1 G1 4 f h0 n0 Z0 O2 P3 (OL.keep K0 all0) hs (by decide)) (by decide) (by decide) (by decide) (by decide) e6 hs.1 (g := (mkF m 4 #[.val (.ref a1), .val (.int (2 : Int32))] [(.ref a1), (.int (2 : Int32))])) rfl (by rw [hml]; rfl) (lenOf pd_8n4_0 rfl) rfl (by show 2 * 0 + _ ≤ _; exact Nat.le_of_eq rfl) (hb hby d8_4))
      refine Goes.step st7 ?_
      show Goes p e below s _ _ _ T7 (mkF m 7 #[.val (.ref a1), .val (.int (2 : Int32))] [(.int (Int32.ofNat 4)), (.int (2 : Int32))])
      refine Goes.step (fun _ k => XS.icmpNo X7.here hx rfl (hb hby d8_7) rfl (tlt (by decide : (2 : Int32) < (Int32.ofNat 4))).2.1 k) ?_
      show Goes p e below s _ _ _ T7 (mkF m 10 #[.val (.ref a1), .val (.int (2 : Int32))] [])
      refine Goes.step (fun _ k => XS.aloadN X7.here hx rfl (hb hby d8_10) rfl rfl k) ?_
      refine Goes.step (fun _ k => XS.iloadN X7.here hx rfl (hb hby d8_11) rfl k) ?_
      show Goes p e below s _ _ _ T7 (mkF m 12 #[.val (.ref a1), .val (.int (2 : Int32))] [(.int (2 : Int32)), (.ref a1)])
      obtain ⟨T8, X8, e8, st8⟩ := own_pure (r := some (.int (f 2))) (fun _ _ _ q => q) (callXV X7 hx hZ (C := "java/lang/String") (b := a1) (y := (⟨"java/lang/String", "charAt", "(I)C"⟩ : MethodName)) (z := (⟨"java/lang/String", "charAt", "(I)C"⟩ : MethodName)) hown (hw _ (List.mem_of_getElem? (i := 50) rfl)) (hw _ (List.mem_of_getElem? (i := 51) rfl)) (hw _ (List.mem_of_getElem? (i := 53) rfl)) (hw _ (List.mem_of_getElem? (i := 52) rfl)) (hw _ (List.mem_of_getElem? (i := 54) rfl)) (hw _ (List.mem_of_getElem? (i := 4) rfl)) (notFace_of_selects (args := #[]) (mvT hZ (hw _ (List.mem_of_getElem? (i := 53) rfl)))) (by decide) (W := 0) (argsL := [(.int (2 : Int32))]) (rest := []) (rm11s l Z a0 hw [] a1 (2 : Int32) G1 oF 4 f 2 h0 n0 Z0 O2 P3 (OL.keep K0 all0) O4 O5 O6 O7 hs (by decide) rfl (by decide)) (by decide) (by decide) (by decide) (by decide) e7 hs.1 (g := (mkF m 12 #[.val (.ref a1), .val (.int (2 : Int32))] [(.int (2 : Int32)), (.ref a1)])) rfl (by rw [hml]; rfl) (lenOf pd_8n4_1 rfl) rfl (by show 2 * 0 + _ ≤ _; exact Nat.le_of_eq rfl) (hb hby d8_12))
      refine Goes.step st8 ?_
      show Goes p e below s _ _ _ T8 (mkF m 15 #[.val (.ref a1), .val (.int (2 : Int32))] [(.int (f 2))])
      obtain ⟨T9, X9, e9, st9⟩ := callPure X8 hx hZ (y := (⟨"com/example/cartouche/cartouche/ControlCharacters", "isControl", "(C)Z"⟩ : MethodName)) hown (hw _ (List.mem_of_getElem? (i := 72) rfl)) (hw _ (List.mem_of_getElem? (i := 73) rfl)) (hw _ (List.mem_of_getElem? (i := 38) rfl)) (hw _ (List.mem_of_getElem? (i := 74) rfl)) (by decide) (W := 0) (argsL := [(.int (f 2))]) (rest := []) (r := (.int (f16 (f 2)))) (fun _ _ _ q => q) (rm16 l Z a0 hw [] (f 2) h0 ) (by decide) (by decide) (by decide) (by decide) e8 (g := (mkF m 15 #[.val (.ref a1), .val (.int (2 : Int32))] [(.int (f 2))])) rfl (by rw [hml]; rfl) (lenOf pd_8n4_2 rfl) rfl (by show 2 * 0 + _ ≤ _; exact Nat.le_of_eq rfl) (hb hby d8_15)
      refine Goes.step st9 ?_
      show Goes p e below s _ _ _ T9 (mkF m 18 #[.val (.ref a1), .val (.int (2 : Int32))] [(.int (f16 (f 2)))])
      by_cases hc18_2 : (f16 (f 2)) = (0 : Int32)
      · refine Goes.step (fun _ k => XS.ifYes X9.here hx rfl (pc0 := 18) (pc' := 23) rfl (hb hby d8_18) rfl ((if0 _ _).trans (teq hc18_2).1) (by decide) (by decide) k) ?_
        show Goes p e below s _ _ _ T9 (mkF m 23 #[.val (.ref a1), .val (.int (2 : Int32))] [])
        refine Goes.step (fun _ k => XS.iinc X9.here hx rfl (hb hby d8_23) rfl (l' := #[.val (.ref a1), .val (.int (3 : Int32))]) rfl k) ?_
        show Goes p e below s _ _ _ T9 (mkF m 26 #[.val (.ref a1), .val (.int (3 : Int32))] [])
        refine Goes.step (fun _ k => XS.goto X9.here hx rfl (pc0 := 26) (pc' := 2) rfl (hb hby d8_26) (by decide) (by decide) k) ?_
        refine Goes.step (fun _ k => XS.iloadN X9.here hx rfl (hb hby d8_2) rfl k) ?_
        show Goes p e below s _ _ _ T9 (mkF m 3 #[.val (.ref a1), .val (.int (3 : Int32))] [(.int (3 : Int32))])
        refine Goes.step (fun _ k => XS.aloadN X9.here hx rfl (hb hby d8_3) rfl rfl k) ?_
        obtain ⟨T10, X10, e10, st10⟩ := own_pure (r := some (.int (Int32.ofNat 4))) (fun _ _ _ q => q) (callXV X9 hx hZ (C := "java/lang/String") (b := a1) (y := (⟨"java/lang/String", "length", "()I"⟩ : MethodName)) (z := (⟨"java/lang/String", "length", "()I"⟩ : MethodName)) hown (hw _ (List.mem_of_getElem? (i := 40) rfl)) (hw _ (List.mem_of_getElem? (i := 41) rfl)) (hw _ (List.mem_of_getElem? (i := 43) rfl)) (hw _ (List.mem_of_getElem? (i := 42) rfl)) (hw _ (List.mem_of_getElem? (i := 44) rfl)) (hw _ (List.mem_of_getElem? (i := 4) rfl)) (notFace_of_selects (args := #[]) (mvT hZ (hw _ (List.mem_of_getElem? (i := 43) rfl)))) (by decide) (W := 1) (argsL := []) (rest := [(.int (3 : Int32))]) (rm9s l Z a0 hw [] a1 G1 4 f h0 n0 Z0 O2 P3 (OL.keep K0 all0) hs (by decide)) (by decide) (by decide) (by decide) (by decide) e9 hs.1 (g := (mkF m 4 #[.val (.ref a1), .val (.int (3 : Int32))] [(.ref a1), (.int (3 : Int32))])) rfl (by rw [hml]; rfl) (lenOf pd_8n4_0 rfl) rfl (by show 2 * 0 + _ ≤ _; exact Nat.le_of_eq rfl) (hb hby d8_4))
        refine Goes.step st10 ?_
        show Goes p e below s _ _ _ T10 (mkF m 7 #[.val (.ref a1), .val (.int (3 : Int32))] [(.int (Int32.ofNat 4)), (.int (3 : Int32))])
        refine Goes.step (fun _ k => XS.icmpNo X10.here hx rfl (hb hby d8_7) rfl (tlt (by decide : (3 : Int32) < (Int32.ofNat 4))).2.1 k) ?_
        show Goes p e below s _ _ _ T10 (mkF m 10 #[.val (.ref a1), .val (.int (3 : Int32))] [])
        refine Goes.step (fun _ k => XS.aloadN X10.here hx rfl (hb hby d8_10) rfl rfl k) ?_
        refine Goes.step (fun _ k => XS.iloadN X10.here hx rfl (hb hby d8_11) rfl k) ?_
        show Goes p e below s _ _ _ T10 (mkF m 12 #[.val (.ref a1), .val (.int (3 : Int32))] [(.int (3 : Int32)), (.ref a1)])
        obtain ⟨T11, X11, e11, st11⟩ := own_pure (r := some (.int (f 3))) (fun _ _ _ q => q) (callXV X10 hx hZ (C := "java/lang/String") (b := a1) (y := (⟨"java/lang/String", "charAt", "(I)C"⟩ : MethodName)) (z := (⟨"java/lang/String", "charAt", "(I)C"⟩ : MethodName)) hown (hw _ (List.mem_of_getElem? (i := 50) rfl)) (hw _ (List.mem_of_getElem? (i := 51) rfl)) (hw _ (List.mem_of_getElem? (i := 53) rfl)) (hw _ (List.mem_of_getElem? (i := 52) rfl)) (hw _ (List.mem_of_getElem? (i := 54) rfl)) (hw _ (List.mem_of_getElem? (i := 4) rfl)) (notFace_of_selects (args := #[]) (mvT hZ (hw _ (List.mem_of_getElem? (i := 53) rfl)))) (by decide) (W := 0) (argsL := [(.int (3 : Int32))]) (rest := []) (rm11s l Z a0 hw [] a1 (3 : Int32) G1 oF 4 f 3 h0 n0 Z0 O2 P3 (OL.keep K0 all0) O4 O5 O6 O7 hs (by decide) rfl (by decide)) (by decide) (by decide) (by decide) (by decide) e10 hs.1 (g := (mkF m 12 #[.val (.ref a1), .val (.int (3 : Int32))] [(.int (3 : Int32)), (.ref a1)])) rfl (by rw [hml]; rfl) (lenOf pd_8n4_1 rfl) rfl (by show 2 * 0 + _ ≤ _; exact Nat.le_of_eq rfl) (hb hby d8_12))
        refine Goes.step st11 ?_
        show Goes p e below s _ _ _ T11 (mkF m 15 #[.val (.ref a1), .val (.int (3 : Int32))] [(.int (f 3))])
        obtain ⟨T12, X12, e12, st12⟩ := callPure X11 hx hZ (y := (⟨"com/example/cartouche/cartouche/ControlCharacters", "isControl", "(C)Z"⟩ : MethodName)) hown (hw _ (List.mem_of_getElem? (i := 72) rfl)) (hw _ (List.mem_of_getElem? (i := 73) rfl)) (hw _ (List.mem_of_getElem? (i := 38) rfl)) (hw _ (List.mem_of_getElem? (i := 74) rfl)) (by decide) (W := 0) (argsL := [(.int (f 3))]) (rest := []) (r := (.int (f16 (f 3)))) (fun _ _ _ q => q) (rm16 l Z a0 hw [] (f 3) h0 ) (by decide) (by decide) (by decide) (by decide) e11 (g := (mkF m 15 #[.val (.ref a1), .val (.int (3 : Int32))] [(.int (f 3))])) rfl (by rw [hml]; rfl) (lenOf pd_8n4_2 rfl) rfl (by show 2 * 0 + _ ≤ _; exact Nat.le_of_eq rfl) (hb hby d8_15)
        refine Goes.step st12 ?_
        show Goes p e below s _ _ _ T12 (mkF m 18 #[.val (.ref a1), .val (.int (3 : Int32))] [(.int (f16 (f 3)))])
        by_cases hc18_3 : (f16 (f 3)) = (0 : Int32)
        · refine Goes.step (fun _ k => XS.ifYes X12.here hx rfl (pc0 := 18) (pc' := 23) rfl (hb hby d8_18) rfl ((if0 _ _).trans (teq hc18_3).1) (by decide) (by decide) k) ?_
          show Goes p e below s _ _ _ T12 (mkF m 23 #[.val (.ref a1), .val (.int (3 : Int32))] [])
          refine Goes.step (fun _ k => XS.iinc X12.here hx rfl (hb hby d8_23) rfl (l' := #[.val (.ref a1), .val (.int (4 : Int32))]) rfl k) ?_
          show Goes p e below s _ _ _ T12 (mkF m 26 #[.val (.ref a1), .val (.int (4 : Int32))] [])
          refine Goes.step (fun _ k => XS.goto X12.here hx rfl (pc0 := 26) (pc' := 2) rfl (hb hby d8_26) (by decide) (by decide) k) ?_
          refine Goes.step (fun _ k => XS.iloadN X12.here hx rfl (hb hby d8_2) rfl k) ?_
          show Goes p e below s _ _ _ T12 (mkF m 3 #[.val (.ref a1), .val (.int (4 : Int32))] [(.int (4 : Int32))])
          refine Goes.step (fun _ k => XS.aloadN X12.here hx rfl (hb hby d8_3) rfl rfl k) ?_
          obtain ⟨T13, X13, e13, st13⟩ := own_pure (r := some (.int (Int32.ofNat 4))) (fun _ _ _ q => q) (callXV X12 hx hZ (C := "java/lang/String") (b := a1) (y := (⟨"java/lang/String", "length", "()I"⟩ : MethodName)) (z := (⟨"java/lang/String", "length", "()I"⟩ : MethodName)) hown (hw _ (List.mem_of_getElem? (i := 40) rfl)) (hw _ (List.mem_of_getElem? (i := 41) rfl)) (hw _ (List.mem_of_getElem? (i := 43) rfl)) (hw _ (List.mem_of_getElem? (i := 42) rfl)) (hw _ (List.mem_of_getElem? (i := 44) rfl)) (hw _ (List.mem_of_getElem? (i := 4) rfl)) (notFace_of_selects (args := #[]) (mvT hZ (hw _ (List.mem_of_getElem? (i := 43) rfl)))) (by decide) (W := 1) (argsL := []) (rest := [(.int (4 : Int32))]) (rm9s l Z a0 hw [] a1 G1 4 f h0 n0 Z0 O2 P3 (OL.keep K0 all0) hs (by decide)) (by decide) (by decide) (by decide) (by decide) e12 hs.1 (g := (mkF m 4 #[.val (.ref a1), .val (.int (4 : Int32))] [(.ref a1), (.int (4 : Int32))])) rfl (by rw [hml]; rfl) (lenOf pd_8n4_0 rfl) rfl (by show 2 * 0 + _ ≤ _; exact Nat.le_of_eq rfl) (hb hby d8_4))
          refine Goes.step st13 ?_
          show Goes p e below s _ _ _ T13 (mkF m 7 #[.val (.ref a1), .val (.int (4 : Int32))] [(.int (Int32.ofNat 4)), (.int (4 : Int32))])
          refine Goes.step (fun _ k => XS.icmpYes X13.here hx rfl (pc0 := 7) (pc' := 29) rfl (hb hby d8_7) rfl (flt (by decide : ¬ ((4 : Int32) < (Int32.ofNat 4)))).2.1 (by decide) (by decide) k) ?_
          show Goes p e below s _ _ _ T13 (mkF m 29 #[.val (.ref a1), .val (.int (4 : Int32))] [])
          refine Goes.step (fun _ k => XS.iconst X13.here hx rfl (hb hby d8_29) k) ?_
          show Goes p e below s _ _ _ T13 (mkF m 30 #[.val (.ref a1), .val (.int (4 : Int32))] [(.int (-1 : Int32))])
          exact Goes.outI X13 hx hlk Bd.returns (hb hby d8_30) (by rw [e13]; exact ⟨by rw [own_x4]; simp only [if_pos hc18, if_pos hc18_1, if_pos hc18_2, if_pos hc18_3], rfl, rfl⟩) (by decide) (by decide)
        · refine Goes.step (fun _ k => XS.ifNo X12.here hx rfl (hb hby d8_18) rfl ((if0 _ _).trans (feq hc18_3).1) k) ?_
          show Goes p e below s _ _ _ T12 (mkF m 21 #[.val (.ref a1), .val (.int (3 : Int32))] [])
          refine Goes.step (fun _ k => XS.iloadN X12.here hx rfl (hb hby d8_21) rfl k) ?_
          show Goes p e below s _ _ _ T12 (mkF m 22 #[.val (.ref a1), .val (.int (3 : Int32))] [(.int (3 : Int32))])
          exact Goes.outI X12 hx hlk Bd.returns (hb hby d8_22) (by rw [e12]; exact ⟨by rw [own_x4]; simp only [if_pos hc18, if_pos hc18_1, if_pos hc18_2, if_neg hc18_3], rfl, rfl⟩) (by decide) (by decide)
      · refine Goes.step (fun _ k => XS.ifNo X9.here hx rfl (hb hby d8_18) rfl ((if0 _ _).trans (feq hc18_2).1) k) ?_
        show Goes p e below s _ _ _ T9 (mkF m 21 #[.val (.ref a1), .val (.int (2 : Int32))] [])
        refine Goes.step (fun _ k => XS.iloadN X9.here hx rfl (hb hby d8_21) rfl k) ?_
        show Goes p e below s _ _ _ T9 (mkF m 22 #[.val (.ref a1), .val (.int (2 : Int32))] [(.int (2 : Int32))])
        exact Goes.outI X9 hx hlk Bd.returns (hb hby d8_22) (by rw [e9]; exact ⟨by rw [own_x4]; simp only [if_pos hc18, if_pos hc18_1, if_neg hc18_2], rfl, rfl⟩) (by decide) (by decide)
    · refine Goes.step (fun _ k => XS.ifNo X6.here hx rfl (hb hby d8_18) rfl ((if0 _ _).trans (feq hc18_1).1) k) ?_
      show Goes p e below s _ _ _ T6 (mkF m 21 #[.val (.ref a1), .val (.int (1 : Int32))] [])
      refine Goes.step (fun _ k => XS.iloadN X6.here hx rfl (hb hby d8_21) rfl k) ?_
      show Goes p e below s _ _ _ T6 (mkF m 22 #[.val (.ref a1), .val (.int (1 : Int32))] [(.int (1 : Int32))])
      exact Goes.outI X6 hx hlk Bd.returns (hb hby d8_22) (by rw [e6]; exact ⟨by rw [own_x4]; simp only [if_pos hc18, if_neg hc18_1], rfl, rfl⟩) (by decide) (by decide)
  · refine Goes.step (fun _ k => XS.ifNo X3.here hx rfl (hb hby d8_18) rfl ((if0 _ _).trans (feq hc18).1) k) ?_
    show Goes p e below s _ _ _ T3 (mkF m 21 #[.val (.ref a1), .val (.int (0 : Int32))] [])
    refine Goes.step (fun _ k => XS.iloadN X3.here hx rfl (hb hby d8_21) rfl k) ?_
    show Goes p e below s _ _ _ T3 (mkF m 22 #[.val (.ref a1), .val (.int (0 : Int32))] [(.int (0 : Int32))])
    exact Goes.outI X3 hx hlk Bd.returns (hb hby d8_22) (by rw [e3]; exact ⟨by rw [own_x4]; simp only [if_neg hc18], rfl, rfl⟩) (by decide) (by decide)
theorem own_ch0 {c0 c1 c2 c3 : Int32} (h0 : 0 ≤ c0.toInt ∧ c0.toInt < 65536) (h1 : 0 ≤ c1.toInt ∧ c1.toInt < 65536) (h2 : 0 ≤ c2.toInt ∧ c2.toInt < 65536) (h3 : 0 ≤ c3.toInt ∧ c3.toInt < 65536) (j : Nat) (hj : j < 0) : (fun _ => 0) j = own_cs c0 c1 c2 c3 j := by
  exact absurd hj (Nat.not_lt_zero j)
theorem own_ch1 {c0 c1 c2 c3 : Int32} (h0 : 0 ≤ c0.toInt ∧ c0.toInt < 65536) (h1 : 0 ≤ c1.toInt ∧ c1.toInt < 65536) (h2 : 0 ≤ c2.toInt ∧ c2.toInt < 65536) (h3 : 0 ≤ c3.toInt ∧ c3.toInt < 65536) (j : Nat) (hj : j < 1) : (updI (fun _ => 0) (0) (nar .char c0)) j = own_cs c0 c1 c2 c3 j := by
  obtain rfl : j = 0 := by omega
  all_goals simp [updI, own_cs, own_narc h0.1 h0.2, own_narc h1.1 h1.2, own_narc h2.1 h2.2, own_narc h3.1 h3.2]
theorem own_ch2 {c0 c1 c2 c3 : Int32} (h0 : 0 ≤ c0.toInt ∧ c0.toInt < 65536) (h1 : 0 ≤ c1.toInt ∧ c1.toInt < 65536) (h2 : 0 ≤ c2.toInt ∧ c2.toInt < 65536) (h3 : 0 ≤ c3.toInt ∧ c3.toInt < 65536) (j : Nat) (hj : j < 2) : (updI (updI (fun _ => 0) (0) (nar .char c0)) (1) (nar .char c1)) j = own_cs c0 c1 c2 c3 j := by
  obtain rfl | rfl : j = 0 ∨ j = 1 := by omega
  all_goals simp [updI, own_cs, own_narc h0.1 h0.2, own_narc h1.1 h1.2, own_narc h2.1 h2.2, own_narc h3.1 h3.2]
theorem own_ch3 {c0 c1 c2 c3 : Int32} (h0 : 0 ≤ c0.toInt ∧ c0.toInt < 65536) (h1 : 0 ≤ c1.toInt ∧ c1.toInt < 65536) (h2 : 0 ≤ c2.toInt ∧ c2.toInt < 65536) (h3 : 0 ≤ c3.toInt ∧ c3.toInt < 65536) (j : Nat) (hj : j < 3) : (updI (updI (updI (fun _ => 0) (0) (nar .char c0)) (1) (nar .char c1)) (2) (nar .char c2)) j = own_cs c0 c1 c2 c3 j := by
  obtain rfl | rfl | rfl : j = 0 ∨ j = 1 ∨ j = 2 := by omega
  all_goals simp [updI, own_cs, own_narc h0.1 h0.2, own_narc h1.1 h1.2, own_narc h2.1 h2.2, own_narc h3.1 h3.2]
theorem own_ch4 {c0 c1 c2 c3 : Int32} (h0 : 0 ≤ c0.toInt ∧ c0.toInt < 65536) (h1 : 0 ≤ c1.toInt ∧ c1.toInt < 65536) (h2 : 0 ≤ c2.toInt ∧ c2.toInt < 65536) (h3 : 0 ≤ c3.toInt ∧ c3.toInt < 65536) (j : Nat) (hj : j < 4) : (updI (updI (updI (updI (fun _ => 0) (0) (nar .char c0)) (1) (nar .char c1)) (2) (nar .char c2)) (3) (nar .char c3)) j = own_cs c0 c1 c2 c3 j := by
  obtain rfl | rfl | rfl | rfl : j = 0 ∨ j = 1 ∨ j = 2 ∨ j = 3 := by omega
  all_goals simp [updI, own_cs, own_narc h0.1 h0.2, own_narc h1.1 h1.2, own_narc h2.1 h2.2, own_narc h3.1 h3.2]
theorem pn_0 : plainName "com/example/cartouche/cartouche/ControlCharactersIndexInPinLaw" = true := by first | (simp [plainName, overriddenIn]; done) | decide +kernel
theorem pd_0_0 : parseMethodDescriptor "([C)V" = some ⟨[(.array .char)], none⟩ := by decide +kernel
theorem pd_0_1 : parseMethodDescriptor "(Ljava/lang/String;)I" = some ⟨[(.object "java/lang/String")], some .int⟩ := by decide +kernel
theorem pd_0_2 : parseMethodDescriptor "(C)Z" = some ⟨[.char], some .boolean⟩ := by decide +kernel
theorem ef_0 (m : MethodId) (p1 : Int32) (p2 : Int32) (p3 : Int32) : entryFrame m #[(.int p1), (.int p2), (.int p3)] maxLocals = mkF m 0 #[.val (.int p1), .val (.int p2), .val (.int p3), .unset, .unset, .unset, .unset, .unset, .unset, .unset] [] := by first | (simp [entryFrame, mkF, argsToLocals, Value.category, maxLocals]; done) | rfl
def Q0 (Z : State) (p1 : Int32) (p2 : Int32) (p3 : Int32) (G1 : Int32) (oF : Option Addr) (h0 : Heap) (n0 : Nat) (v : Option Value) (h : Heap) (L : List Loc) : Prop := v = some (.int (1 : Int32)) ∧ Fr n0 L
set_option maxRecDepth 65536 in
set_option maxHeartbeats 40000000 in
theorem rm0 (l : Launch) (Z : State) (a0 : Array Value) (hw : ∀ d ∈ tables_1, d.before a0 Z = true) (ws : List Jvm.Cond) (p1 : Int32) (p2 : Int32) (p3 : Int32) (G1 : Int32) (oF : Option Addr) (h0 : Heap) (n0 : Nat) (Z0 : n0 ≤ h0.size) (O2 : Sta Z Z.heap "java/lang/String" "COMPACT_STRINGS" "Z" (.int G1)) (P3 : ¬ (G1 = (0 : Int32))) (OL : Old Z n0 h0) (O4 : Sta Z Z.heap "jdk/internal/util/Preconditions" "SIOOBE_FORMATTER" "Ljava/util/function/BiFunction;" (ov oF)) (O5 : Sta Z Z.heap "java/lang/StringUTF16" "$assertionsDisabled" "Z" (.int (1 : Int32))) (O6 : Sta Z Z.heap "java/lang/StringUTF16" "HI_BYTE_SHIFT" "I" (.int (0 : Int32))) (O7 : Sta Z Z.heap "java/lang/StringUTF16" "LO_BYTE_SHIFT" "I" (.int (8 : Int32))) (HC1 : Jvm.Lit.constHeld Z "java/lang/String" 7) (hcw : Jvm.Lit.compactW.before a0 Z = true) :
    MetFree l x (head1 (Jvm.Cond.code x code maxLocals ret :: ws) room_1) (fun a U => a = #[(.int p1), (.int p2), (.int p3)] ∧ Z.Warmed39 U.vm ∧ U.heap = h0 ∧ U.vm.interned = Z.vm.interned) (fun _ _ _ _ _ => True) (fun _ U o U' => ∃ v L, o = .returned v ∧ Q0 Z p1 p2 p3 G1 oF h0 n0 v U'.heap L ∧ ReturnedEndW U o U' L room_1.cells room_1.slots) := by
  refine MetFree.of_bodySF (plainFor_of_name pn_0) hisR ?_
  intro p e s m args below meth c s₁ Bd hml0 hP hK
  obtain ⟨rfl, hZ, hh, hI⟩ := hP
  have hx := Bd.exec
  have hby := Bd.bytes
  have hlk := Bd.notSynchronized
  have hml : c.maxLocals = 10 := hml0
  have hown : s.vm.findClass "com/example/cartouche/cartouche/ControlCharactersIndexInPinLaw" = some m.cls := findClass_of_methodNamed Bd.named
  have hnm := (name_of_methodNamed Bd.named Bd.method).1
  have X0 : Stand p l e room_1 s m #[(.int p1), (.int p2), (.int p3)] below meth c s₁ [] 0 0 := Stand.of_body Bd
  have e0 : s₁.heap = h0 := by rw [← hh, Bd.state]; rfl
  have N0 := Fr.nil n0
  have K0 : Keep h0 h0 [] := Keep.refl h0 _
  show GoesW p e below s room_1.cells room_1.slots (Q0 Z p1 p2 p3 G1 oF h0 n0) s₁ (entryFrame m #[(.int p1), (.int p2), (.int p3)] maxLocals)
  refine GoesW.step (fun t k => castTop (ef_0 m p1 p2 p3) k) ?_
  refine GoesW.step (fun _ k => XS.iloadN X0.here hx rfl (hb hby at_0) rfl k) ?_
  refine GoesW.step (fun _ k => X0.ldcInt hx hown (mvT hZ (hw _ (List.mem_of_getElem? (i := 0) rfl))) (g := (mkF m 1 #[.val (.int p1), .val (.int p2), .val (.int p3), .unset, .unset, .unset, .unset, .unset, .unset, .unset] [(.int p3)])) rfl (hb hby at_1) _ k) ?_
  show GoesW p e below s _ _ _ s₁ (mkF m 3 #[.val (.int p1), .val (.int p2), .val (.int p3), .unset, .unset, .unset, .unset, .unset, .unset, .unset] [(.int (2147483647 : Int32)), (.int p3)])
  refine GoesW.step (fun _ k => XS.iand X0.here hx rfl (hb hby at_3) rfl k) ?_
  refine GoesW.step (fun _ k => XS.iconst X0.here hx rfl (hb hby at_4) k) ?_
  refine GoesW.step (fun _ k => iremM X0 hx rfl (hb hby at_5) rfl (by decide) k) ?_
  show GoesW p e below s _ _ _ s₁ (mkF m 6 #[.val (.int p1), .val (.int p2), .val (.int p3), .unset, .unset, .unset, .unset, .unset, .unset, .unset] [(.int ((p3 &&& (2147483647 : Int32)) % (5 : Int32)))])
  rcases own_mod5 p3 with hq | hq | hq | hq | hq
  · rw [hq]
    refine GoesW.step (fun _ k => XS.istoreN X0.here hx rfl (hb hby at_6) rfl (l' := #[.val (.int p1), .val (.int p2), .val (.int p3), .val (.int (0 : Int32)), .unset, .unset, .unset, .unset, .unset, .unset]) rfl k) ?_
    refine GoesW.step (fun _ k => XS.iloadN X0.here hx rfl (hb hby at_7) rfl k) ?_
    refine GoesW.step (fun _ k => X0.ldcInt hx hown (mvT hZ (hw _ (List.mem_of_getElem? (i := 1) rfl))) (g := (mkF m 8 #[.val (.int p1), .val (.int p2), .val (.int p3), .val (.int (0 : Int32)), .unset, .unset, .unset, .unset, .unset, .unset] [(.int p1)])) rfl (hb hby at_8) _ k) ?_
    show GoesW p e below s _ _ _ s₁ (mkF m 10 #[.val (.int p1), .val (.int p2), .val (.int p3), .val (.int (0 : Int32)), .unset, .unset, .unset, .unset, .unset, .unset] [(.int (65535 : Int32)), (.int p1)])
    refine GoesW.step (fun _ k => XS.iand X0.here hx rfl (hb hby at_10) rfl k) ?_
    refine GoesW.step (fun _ k => XS.i2c X0.here hx rfl (hb hby at_11) rfl k) ?_
    show GoesW p e below s _ _ _ s₁ (mkF m 12 #[.val (.int p1), .val (.int p2), .val (.int p3), .val (.int (0 : Int32)), .unset, .unset, .unset, .unset, .unset, .unset] [(.int ((p1 &&& (65535 : Int32)).toUInt32.toUInt16.toUInt32.toInt32))])
    obtain ⟨c0, ec0, rc0⟩ := own_chr ((p1 &&& (65535 : Int32)))
    rw [ec0]
    refine GoesW.step (fun _ k => XS.istore X0.here hx rfl (hb hby at_12) rfl (l' := #[.val (.int p1), .val (.int p2), .val (.int p3), .val (.int (0 : Int32)), .val (.int c0), .unset, .unset, .unset, .unset, .unset]) rfl k) ?_
    refine GoesW.step (fun _ k => XS.iloadN X0.here hx rfl (hb hby at_14) rfl k) ?_
    refine GoesW.step (fun _ k => XS.bipush X0.here hx rfl (hb hby at_15) k) ?_
    show GoesW p e below s _ _ _ s₁ (mkF m 17 #[.val (.int p1), .val (.int p2), .val (.int p3), .val (.int (0 : Int32)), .val (.int c0), .unset, .unset, .unset, .unset, .unset] [(.int (16 : Int32)), (.int p1)])
    refine GoesW.step (fun _ k => XS.iushr X0.here hx rfl (hb hby at_17) rfl k) ?_
    show GoesW p e below s _ _ _ s₁ (mkF m 18 #[.val (.int p1), .val (.int p2), .val (.int p3), .val (.int (0 : Int32)), .val (.int c0), .unset, .unset, .unset, .unset, .unset] [(.int ((p1.toUInt32 >>> ((16 : Int32) &&& 31).toUInt32).toInt32))])
    refine GoesW.step (fun _ k => XS.i2c X0.here hx rfl (hb hby at_18) rfl k) ?_
    show GoesW p e below s _ _ _ s₁ (mkF m 19 #[.val (.int p1), .val (.int p2), .val (.int p3), .val (.int (0 : Int32)), .val (.int c0), .unset, .unset, .unset, .unset, .unset] [(.int (((p1.toUInt32 >>> ((16 : Int32) &&& 31).toUInt32).toInt32).toUInt32.toUInt16.toUInt32.toInt32))])
    obtain ⟨c1, ec1, rc1⟩ := own_chr (((p1.toUInt32 >>> ((16 : Int32) &&& 31).toUInt32).toInt32))
    rw [ec1]
    refine GoesW.step (fun _ k => XS.istore X0.here hx rfl (hb hby at_19) rfl (l' := #[.val (.int p1), .val (.int p2), .val (.int p3), .val (.int (0 : Int32)), .val (.int c0), .val (.int c1), .unset, .unset, .unset, .unset]) rfl k) ?_
    refine GoesW.step (fun _ k => XS.iloadN X0.here hx rfl (hb hby at_21) rfl k) ?_
    refine GoesW.step (fun _ k => X0.ldcInt hx hown (mvT hZ (hw _ (List.mem_of_getElem? (i := 1) rfl))) (g := (mkF m 22 #[.val (.int p1), .val (.int p2), .val (.int p3), .val (.int (0 : Int32)), .val (.int c0), .val (.int c1), .unset, .unset, .unset, .unset] [(.int p2)])) rfl (hb hby at_22) _ k) ?_
    show GoesW p e below s _ _ _ s₁ (mkF m 24 #[.val (.int p1), .val (.int p2), .val (.int p3), .val (.int (0 : Int32)), .val (.int c0), .val (.int c1), .unset, .unset, .unset, .unset] [(.int (65535 : Int32)), (.int p2)])
    refine GoesW.step (fun _ k => XS.iand X0.here hx rfl (hb hby at_24) rfl k) ?_
    refine GoesW.step (fun _ k => XS.i2c X0.here hx rfl (hb hby at_25) rfl k) ?_
    show GoesW p e below s _ _ _ s₁ (mkF m 26 #[.val (.int p1), .val (.int p2), .val (.int p3), .val (.int (0 : Int32)), .val (.int c0), .val (.int c1), .unset, .unset, .unset, .unset] [(.int ((p2 &&& (65535 : Int32)).toUInt32.toUInt16.toUInt32.toInt32))])
    obtain ⟨c2, ec2, rc2⟩ := own_chr ((p2 &&& (65535 : Int32)))
    rw [ec2]
    refine GoesW.step (fun _ k => XS.istore X0.here hx rfl (hb hby at_26) rfl (l' := #[.val (.int p1), .val (.int p2), .val (.int p3), .val (.int (0 : Int32)), .val (.int c0), .val (.int c1), .val (.int c2), .unset, .unset, .unset]) rfl k) ?_
    refine GoesW.step (fun _ k => XS.iloadN X0.here hx rfl (hb hby at_28) rfl k) ?_
    refine GoesW.step (fun _ k => XS.bipush X0.here hx rfl (hb hby at_29) k) ?_
    show GoesW p e below s _ _ _ s₁ (mkF m 31 #[.val (.int p1), .val (.int p2), .val (.int p3), .val (.int (0 : Int32)), .val (.int c0), .val (.int c1), .val (.int c2), .unset, .unset, .unset] [(.int (16 : Int32)), (.int p2)])
    refine GoesW.step (fun _ k => XS.iushr X0.here hx rfl (hb hby at_31) rfl k) ?_
    show GoesW p e below s _ _ _ s₁ (mkF m 32 #[.val (.int p1), .val (.int p2), .val (.int p3), .val (.int (0 : Int32)), .val (.int c0), .val (.int c1), .val (.int c2), .unset, .unset, .unset] [(.int ((p2.toUInt32 >>> ((16 : Int32) &&& 31).toUInt32).toInt32))])
    refine GoesW.step (fun _ k => XS.i2c X0.here hx rfl (hb hby at_32) rfl k) ?_
    show GoesW p e below s _ _ _ s₁ (mkF m 33 #[.val (.int p1), .val (.int p2), .val (.int p3), .val (.int (0 : Int32)), .val (.int c0), .val (.int c1), .val (.int c2), .unset, .unset, .unset] [(.int (((p2.toUInt32 >>> ((16 : Int32) &&& 31).toUInt32).toInt32).toUInt32.toUInt16.toUInt32.toInt32))])
    obtain ⟨c3, ec3, rc3⟩ := own_chr (((p2.toUInt32 >>> ((16 : Int32) &&& 31).toUInt32).toInt32))
    rw [ec3]
    refine GoesW.step (fun _ k => XS.istore X0.here hx rfl (hb hby at_33) rfl (l' := #[.val (.int p1), .val (.int p2), .val (.int p3), .val (.int (0 : Int32)), .val (.int c0), .val (.int c1), .val (.int c2), .val (.int c3), .unset, .unset]) rfl k) ?_
    refine GoesW.step (fun _ k => XS.iloadN X0.here hx rfl (hb hby at_35) rfl k) ?_
    refine GoesW.step (fun _ k => XS.ifNo X0.here hx rfl (hb hby at_36) rfl ((if0 _ _).trans (teq (by decide : (0 : Int32) = (0 : Int32))).2) k) ?_
    show GoesW p e below s _ _ _ s₁ (mkF m 39 #[.val (.int p1), .val (.int p2), .val (.int p3), .val (.int (0 : Int32)), .val (.int c0), .val (.int c1), .val (.int c2), .val (.int c3), .unset, .unset] [])
    obtain ⟨T1, h1, X1, e1, E1, A1, D1, -, st1⟩ := newO X0 hx hZ hown (hw _ (List.mem_of_getElem? (i := 2) rfl)) (hw _ (List.mem_of_getElem? (i := 3) rfl)) (hw _ (List.mem_of_getElem? (i := 4) rfl)) e0 (g := (mkF m 39 #[.val (.int p1), .val (.int p2), .val (.int p3), .val (.int (0 : Int32)), .val (.int c0), .val (.int c1), .val (.int c2), .val (.int c3), .unset, .unset] [])) rfl (hb hby at_39) (by decide) (by decide)
    obtain ⟨b1, g_1⟩ : ∃ z, z = h0.size := ⟨_, rfl⟩
    rw [← g_1] at A1 D1 st1
    refine GoesW.step st1 ?_
    have ge_b1 : n0 ≤ b1 := by rw [g_1]; exact Z0
    have sz_b1 : h0.size ≤ b1 := by rw [g_1]; exact K0.1
    have z_1 : n0 ≤ h1.size := Nat.le_trans Z0 E1.1
    have K_1 : Keep h0 h1 [] := K0.ext E1
    have E_b1_1 : Exa Z h1 b1 "java/lang/String" := A1
    have F_b1_coder_1 : Fld Z h1 b1 "java/lang/String" "coder" "B" (.int (0 : Int32)) := D1 (Or.inr (hw _ (List.mem_of_getElem? (i := 29) rfl))) (ty := .byte) (by decide)
    have F_b1_value_1 : Fld Z h1 b1 "java/lang/String" "value" "[B" .null := D1 (Or.inr (hw _ (List.mem_of_getElem? (i := 31) rfl))) (ty := (.array .byte)) (by decide)
    show GoesW p e below s _ _ _ T1 (mkF m 42 #[.val (.int p1), .val (.int p2), .val (.int p3), .val (.int (0 : Int32)), .val (.int c0), .val (.int c1), .val (.int c2), .val (.int c3), .unset, .unset] [(.ref b1)])
    refine GoesW.step (fun _ k => XS.dup X1.here hx rfl (hb hby at_42) rfl rfl k) ?_
    refine GoesW.step (fun _ k => XS.iconst X1.here hx rfl (hb hby at_43) k) ?_
    obtain ⟨T2, h2, X2, e2, E2, A2, st2⟩ := newI X1 hx hZ (hw _ (List.mem_of_getElem? (i := 5) rfl)) e1 (g := (mkF m 44 #[.val (.int p1), .val (.int p2), .val (.int p3), .val (.int (0 : Int32)), .val (.int c0), .val (.int c1), .val (.int c2), .val (.int c3), .unset, .unset] [(.int (0 : Int32)), (.ref b1), (.ref b1)])) rfl (hb hby at_44) rfl (N := 0) rfl (cap := 0) (by decide) (by decide) (by decide) (by decide) rfl (by decide)
    obtain ⟨b2, g_2⟩ : ∃ z, z = h1.size := ⟨_, rfl⟩
    rw [← g_2] at A2 st2
    refine GoesW.step st2 ?_
    have ne_b1_b2 : b1 ≠ b2 := Nat.ne_of_lt (by rw [g_2]; exact E_b1_1.lt)
    have ge_b2 : n0 ≤ b2 := by rw [g_2]; exact z_1
    have sz_b2 : h0.size ≤ b2 := by rw [g_2]; exact K_1.1
    have E_b1_2 := E_b1_1.ext E2
    have F_b1_coder_2 := F_b1_coder_1.ext E2
    have F_b1_value_2 := F_b1_value_1.ext E2
    have z_2 : n0 ≤ h2.size := Nat.le_trans z_1 E2.1
    have K_2 : Keep h0 h2 [] := K_1.ext E2
    have A_b2_2 : Ari Z h2 b2 .char (0) (fun _ => 0) := A2
    show GoesW p e below s _ _ _ T2 (mkF m 46 #[.val (.int p1), .val (.int p2), .val (.int p3), .val (.int (0 : Int32)), .val (.int c0), .val (.int c1), .val (.int c2), .val (.int c3), .unset, .unset] [(.ref b2), (.ref b1), (.ref b1)])
    have AC := A_b2_2.cast (g := (own_cs c0 c1 c2 c3)) (own_ch0 rc0 rc1 rc2 rc3)
    obtain ⟨v3, T3, h3, L3, X3, e3, hS3, hZ, hown, Q3, st3⟩ := callXIW X2 hx hZ hI (b := b1) (y := (⟨"java/lang/String", "<init>", "([C)V"⟩ : MethodName)) hown rfl (hw _ (List.mem_of_getElem? (i := 6) rfl)) (hw _ (List.mem_of_getElem? (i := 7) rfl)) (hw _ (List.mem_of_getElem? (i := 8) rfl)) (hw _ (List.mem_of_getElem? (i := 4) rfl)) (by decide) (W := 1) (argsL := [(.ref b2)]) (rest := [(.ref b1)]) (rm1n0 l Z a0 hw [] b1 b2 G1 (own_cs c0 c1 c2 c3) h2 n0 z_2 O2 P3 (OL.keep K_2 all0) O5 O6 O7 E_b1_2 F_b1_value_2 F_b1_coder_2 ge_b1 AC (own_csr rc0 rc1 rc2 rc3 0) (Ne.symm ne_b1_b2) HC1 hcw) (by decide) (by decide) (by decide) (by decide) e2 (g := (mkF m 46 #[.val (.int p1), .val (.int p2), .val (.int p3), .val (.int (0 : Int32)), .val (.int c0), .val (.int c1), .val (.int c2), .val (.int c3), .unset, .unset] [(.ref b2), (.ref b1), (.ref b1)])) rfl (by rw [hml]; rfl) (lenOf pd_0_0 rfl) rfl (by show 2 * 0 + _ ≤ _; exact Nat.le_of_eq rfl) (hb hby at_46)
    obtain ⟨rfl, NQ3, KQ3, hT3⟩ := Q3
    refine GoesW.step st3 ?_
    have E_b1_3 := E_b1_2.keep KQ3
    have A_b2_3 := A_b2_2.keep KQ3 (ninS (Ne.symm ne_b1_b2) nin0)
    have z_3 : n0 ≤ h3.size := Nat.le_trans z_2 KQ3.1
    have K_3 : Keep h0 h3 [] := Keep.trans K_2 KQ3 (allS (Or.inr sz_b1) all0)
    have N_3 := Fr.app N0 NQ3
    have hk_3 := Nat.le_of_eq (congrArg Array.size e3)
    show GoesW p e below s _ _ _ T3 (mkF m 49 #[.val (.int p1), .val (.int p2), .val (.int p3), .val (.int (0 : Int32)), .val (.int c0), .val (.int c1), .val (.int c2), .val (.int c3), .unset, .unset] [(.ref b1)])
    refine GoesW.step (fun _ k => XS.astore X3.here hx rfl (hb hby at_49) rfl rfl (l' := #[.val (.int p1), .val (.int p2), .val (.int p3), .val (.int (0 : Int32)), .val (.int c0), .val (.int c1), .val (.int c2), .val (.int c3), .val (.ref b1), .unset]) rfl k) ?_
    refine GoesW.step (fun _ k => XS.goto X3.here hx rfl (pc0 := 51) (pc' := 176) rfl (hb hby at_51) (by decide) (by decide) k) ?_
    refine GoesW.step (fun _ k => XS.iconst X3.here hx rfl (hb hby at_176) k) ?_
    show GoesW p e below s _ _ _ T3 (mkF m 177 #[.val (.int p1), .val (.int p2), .val (.int p3), .val (.int (0 : Int32)), .val (.int c0), .val (.int c1), .val (.int c2), .val (.int c3), .val (.ref b1), .unset] [(.int (-1 : Int32))])
    refine GoesW.step (fun _ k => XS.istore X3.here hx rfl (hb hby at_177) rfl (l' := #[.val (.int p1), .val (.int p2), .val (.int p3), .val (.int (0 : Int32)), .val (.int c0), .val (.int c1), .val (.int c2), .val (.int c3), .val (.ref b1), .val (.int (-1 : Int32))]) rfl k) ?_
    refine GoesW.step (fun _ k => XS.iloadN X3.here hx rfl (hb hby at_179) rfl k) ?_
    refine GoesW.step (fun _ k => XS.iconst X3.here hx rfl (hb hby at_180) k) ?_
    show GoesW p e below s _ _ _ T3 (mkF m 181 #[.val (.int p1), .val (.int p2), .val (.int p3), .val (.int (0 : Int32)), .val (.int c0), .val (.int c1), .val (.int c2), .val (.int c3), .val (.ref b1), .val (.int (-1 : Int32))] [(.int (3 : Int32)), (.int (0 : Int32))])
    refine GoesW.step (fun _ k => XS.icmpYes X3.here hx rfl (pc0 := 181) (pc' := 195) rfl (hb hby at_181) rfl (flt (by decide : ¬ ((3 : Int32) < (0 : Int32)))).2.2.2 (by decide) (by decide) k) ?_
    show GoesW p e below s _ _ _ T3 (mkF m 195 #[.val (.int p1), .val (.int p2), .val (.int p3), .val (.int (0 : Int32)), .val (.int c0), .val (.int c1), .val (.int c2), .val (.int c3), .val (.ref b1), .val (.int (-1 : Int32))] [])
    refine GoesW.step (fun _ k => XS.iloadN X3.here hx rfl (hb hby at_195) rfl k) ?_
    refine GoesW.step (fun _ k => XS.iconst X3.here hx rfl (hb hby at_196) k) ?_
    refine GoesW.step (fun _ k => XS.icmpYes X3.here hx rfl (pc0 := 197) (pc' := 211) rfl (hb hby at_197) rfl (flt (by decide : ¬ ((2 : Int32) < (0 : Int32)))).2.2.2 (by decide) (by decide) k) ?_
    show GoesW p e below s _ _ _ T3 (mkF m 211 #[.val (.int p1), .val (.int p2), .val (.int p3), .val (.int (0 : Int32)), .val (.int c0), .val (.int c1), .val (.int c2), .val (.int c3), .val (.ref b1), .val (.int (-1 : Int32))] [])
    refine GoesW.step (fun _ k => XS.iloadN X3.here hx rfl (hb hby at_211) rfl k) ?_
    refine GoesW.step (fun _ k => XS.iconst X3.here hx rfl (hb hby at_212) k) ?_
    refine GoesW.step (fun _ k => XS.icmpYes X3.here hx rfl (pc0 := 213) (pc' := 227) rfl (hb hby at_213) rfl (flt (by decide : ¬ ((1 : Int32) < (0 : Int32)))).2.2.2 (by decide) (by decide) k) ?_
    show GoesW p e below s _ _ _ T3 (mkF m 227 #[.val (.int p1), .val (.int p2), .val (.int p3), .val (.int (0 : Int32)), .val (.int c0), .val (.int c1), .val (.int c2), .val (.int c3), .val (.ref b1), .val (.int (-1 : Int32))] [])
    refine GoesW.step (fun _ k => XS.iloadN X3.here hx rfl (hb hby at_227) rfl k) ?_
    refine GoesW.step (fun _ k => XS.ifYes X3.here hx rfl (pc0 := 228) (pc' := 242) rfl (hb hby at_228) rfl ((if0 _ _).trans (flt (by decide : ¬ ((0 : Int32) < (0 : Int32)))).2.2.2) (by decide) (by decide) k) ?_
    show GoesW p e below s _ _ _ T3 (mkF m 242 #[.val (.int p1), .val (.int p2), .val (.int p3), .val (.int (0 : Int32)), .val (.int c0), .val (.int c1), .val (.int c2), .val (.int c3), .val (.ref b1), .val (.int (-1 : Int32))] [])
    refine GoesW.step (fun _ k => XS.aload X3.here hx rfl (hb hby at_242) rfl rfl k) ?_
    obtain ⟨T4, X4, e4, st4⟩ := own_pure (r := some (.int (own_ix (fun i => f16 ((own_cs c0 c1 c2 c3) i)) 0 0))) (fun _ _ _ q => q) (callX X3 hx hZ (y := (⟨"com/example/cartouche/cartouche/ControlCharacters", "indexIn", "(Ljava/lang/String;)I"⟩ : MethodName)) hown (hw _ (List.mem_of_getElem? (i := 36) rfl)) (hw _ (List.mem_of_getElem? (i := 37) rfl)) (hw _ (List.mem_of_getElem? (i := 38) rfl)) (hw _ (List.mem_of_getElem? (i := 39) rfl)) (by decide) (W := 0) (argsL := [(.ref b1)]) (rest := []) (rm8n0 l Z a0 hw [] b1 G1 oF (own_cs c0 c1 c2 c3) h3 n0 z_3 O2 P3 (OL.keep K_3 all0) O4 O5 O6 O7 hT3) (by decide) (by decide) (by decide) (by decide) e3 (g := (mkF m 244 #[.val (.int p1), .val (.int p2), .val (.int p3), .val (.int (0 : Int32)), .val (.int c0), .val (.int c1), .val (.int c2), .val (.int c3), .val (.ref b1), .val (.int (-1 : Int32))] [(.ref b1)])) rfl (by rw [hml]; rfl) (lenOf pd_0_1 rfl) rfl (by show 2 * 0 + _ ≤ _; exact Nat.le_of_eq rfl) (hb hby at_244))
    refine GoesW.step st4 ?_
    show GoesW p e below s _ _ _ T4 (mkF m 247 #[.val (.int p1), .val (.int p2), .val (.int p3), .val (.int (0 : Int32)), .val (.int c0), .val (.int c1), .val (.int c2), .val (.int c3), .val (.ref b1), .val (.int (-1 : Int32))] [(.int (own_ix (fun i => f16 ((own_cs c0 c1 c2 c3) i)) 0 0))])
    as_aux_lemma =>
      refine GoesW.step (fun _ k => XS.iload X4.here hx rfl (hb hby at_247) rfl k) ?_
      refine GoesW.step (fun _ k => XS.icmpNo X4.here hx rfl (hb hby at_249) rfl (teq (by rw [own_x0])).2 k) ?_
      show GoesW p e below s _ _ _ T4 (mkF m 252 #[.val (.int p1), .val (.int p2), .val (.int p3), .val (.int (0 : Int32)), .val (.int c0), .val (.int c1), .val (.int c2), .val (.int c3), .val (.ref b1), .val (.int (-1 : Int32))] [])
      refine GoesW.step (fun _ k => XS.iconst X4.here hx rfl (hb hby at_252) k) ?_
      refine GoesW.step (fun _ k => XS.goto X4.here hx rfl (pc0 := 253) (pc' := 257) rfl (hb hby at_253) (by decide) (by decide) k) ?_
      show GoesW p e below s _ _ _ T4 (mkF m 257 #[.val (.int p1), .val (.int p2), .val (.int p3), .val (.int (0 : Int32)), .val (.int c0), .val (.int c1), .val (.int c2), .val (.int c3), .val (.ref b1), .val (.int (-1 : Int32))] [(.int (1 : Int32))])
      exact GoesW.outN (s := s) (vm₁ := T3.vm) X4 hS3 (by first | (rw [e4]; exact hk_3) | exact Nat.le_refl _) hx hlk (t := .boolean) Bd.returns (by simp) (hb hby at_257) ⟨rfl, N_3⟩ (by decide) (by decide)
  · rw [hq]
    refine GoesW.step (fun _ k => XS.istoreN X0.here hx rfl (hb hby at_6) rfl (l' := #[.val (.int p1), .val (.int p2), .val (.int p3), .val (.int (1 : Int32)), .unset, .unset, .unset, .unset, .unset, .unset]) rfl k) ?_
    refine GoesW.step (fun _ k => XS.iloadN X0.here hx rfl (hb hby at_7) rfl k) ?_
    refine GoesW.step (fun _ k => X0.ldcInt hx hown (mvT hZ (hw _ (List.mem_of_getElem? (i := 1) rfl))) (g := (mkF m 8 #[.val (.int p1), .val (.int p2), .val (.int p3), .val (.int (1 : Int32)), .unset, .unset, .unset, .unset, .unset, .unset] [(.int p1)])) rfl (hb hby at_8) _ k) ?_
    show GoesW p e below s _ _ _ s₁ (mkF m 10 #[.val (.int p1), .val (.int p2), .val (.int p3), .val (.int (1 : Int32)), .unset, .unset, .unset, .unset, .unset, .unset] [(.int (65535 : Int32)), (.int p1)])
    refine GoesW.step (fun _ k => XS.iand X0.here hx rfl (hb hby at_10) rfl k) ?_
    refine GoesW.step (fun _ k => XS.i2c X0.here hx rfl (hb hby at_11) rfl k) ?_
    show GoesW p e below s _ _ _ s₁ (mkF m 12 #[.val (.int p1), .val (.int p2), .val (.int p3), .val (.int (1 : Int32)), .unset, .unset, .unset, .unset, .unset, .unset] [(.int ((p1 &&& (65535 : Int32)).toUInt32.toUInt16.toUInt32.toInt32))])
    obtain ⟨c0, ec0, rc0⟩ := own_chr ((p1 &&& (65535 : Int32)))
    rw [ec0]
    refine GoesW.step (fun _ k => XS.istore X0.here hx rfl (hb hby at_12) rfl (l' := #[.val (.int p1), .val (.int p2), .val (.int p3), .val (.int (1 : Int32)), .val (.int c0), .unset, .unset, .unset, .unset, .unset]) rfl k) ?_
    refine GoesW.step (fun _ k => XS.iloadN X0.here hx rfl (hb hby at_14) rfl k) ?_
    refine GoesW.step (fun _ k => XS.bipush X0.here hx rfl (hb hby at_15) k) ?_
    show GoesW p e below s _ _ _ s₁ (mkF m 17 #[.val (.int p1), .val (.int p2), .val (.int p3), .val (.int (1 : Int32)), .val (.int c0), .unset, .unset, .unset, .unset, .unset] [(.int (16 : Int32)), (.int p1)])
    refine GoesW.step (fun _ k => XS.iushr X0.here hx rfl (hb hby at_17) rfl k) ?_
    show GoesW p e below s _ _ _ s₁ (mkF m 18 #[.val (.int p1), .val (.int p2), .val (.int p3), .val (.int (1 : Int32)), .val (.int c0), .unset, .unset, .unset, .unset, .unset] [(.int ((p1.toUInt32 >>> ((16 : Int32) &&& 31).toUInt32).toInt32))])
    refine GoesW.step (fun _ k => XS.i2c X0.here hx rfl (hb hby at_18) rfl k) ?_
    show GoesW p e below s _ _ _ s₁ (mkF m 19 #[.val (.int p1), .val (.int p2), .val (.int p3), .val (.int (1 : Int32)), .val (.int c0), .unset, .unset, .unset, .unset, .unset] [(.int (((p1.toUInt32 >>> ((16 : Int32) &&& 31).toUInt32).toInt32).toUInt32.toUInt16.toUInt32.toInt32))])
    obtain ⟨c1, ec1, rc1⟩ := own_chr (((p1.toUInt32 >>> ((16 : Int32) &&& 31).toUInt32).toInt32))
    rw [ec1]
    refine GoesW.step (fun _ k => XS.istore X0.here hx rfl (hb hby at_19) rfl (l' := #[.val (.int p1), .val (.int p2), .val (.int p3), .val (.int (1 : Int32)), .val (.int c0), .val (.int c1), .unset, .unset, .unset, .unset]) rfl k) ?_
    refine GoesW.step (fun _ k => XS.iloadN X0.here hx rfl (hb hby at_21) rfl k) ?_
    refine GoesW.step (fun _ k => X0.ldcInt hx hown (mvT hZ (hw _ (List.mem_of_getElem? (i := 1) rfl))) (g := (mkF m 22 #[.val (.int p1), .val (.int p2), .val (.int p3), .val (.int (1 : Int32)), .val (.int c0), .val (.int c1), .unset, .unset, .unset, .unset] [(.int p2)])) rfl (hb hby at_22) _ k) ?_
    show GoesW p e below s _ _ _ s₁ (mkF m 24 #[.val (.int p1), .val (.int p2), .val (.int p3), .val (.int (1 : Int32)), .val (.int c0), .val (.int c1), .unset, .unset, .unset, .unset] [(.int (65535 : Int32)), (.int p2)])
    refine GoesW.step (fun _ k => XS.iand X0.here hx rfl (hb hby at_24) rfl k) ?_
    refine GoesW.step (fun _ k => XS.i2c X0.here hx rfl (hb hby at_25) rfl k) ?_
    show GoesW p e below s _ _ _ s₁ (mkF m 26 #[.val (.int p1), .val (.int p2), .val (.int p3), .val (.int (1 : Int32)), .val (.int c0), .val (.int c1), .unset, .unset, .unset, .unset] [(.int ((p2 &&& (65535 : Int32)).toUInt32.toUInt16.toUInt32.toInt32))])
    obtain ⟨c2, ec2, rc2⟩ := own_chr ((p2 &&& (65535 : Int32)))
    rw [ec2]
    refine GoesW.step (fun _ k => XS.istore X0.here hx rfl (hb hby at_26) rfl (l' := #[.val (.int p1), .val (.int p2), .val (.int p3), .val (.int (1 : Int32)), .val (.int c0), .val (.int c1), .val (.int c2), .unset, .unset, .unset]) rfl k) ?_
    refine GoesW.step (fun _ k => XS.iloadN X0.here hx rfl (hb hby at_28) rfl k) ?_
    refine GoesW.step (fun _ k => XS.bipush X0.here hx rfl (hb hby at_29) k) ?_
    show GoesW p e below s _ _ _ s₁ (mkF m 31 #[.val (.int p1), .val (.int p2), .val (.int p3), .val (.int (1 : Int32)), .val (.int c0), .val (.int c1), .val (.int c2), .unset, .unset, .unset] [(.int (16 : Int32)), (.int p2)])
    refine GoesW.step (fun _ k => XS.iushr X0.here hx rfl (hb hby at_31) rfl k) ?_
    show GoesW p e below s _ _ _ s₁ (mkF m 32 #[.val (.int p1), .val (.int p2), .val (.int p3), .val (.int (1 : Int32)), .val (.int c0), .val (.int c1), .val (.int c2), .unset, .unset, .unset] [(.int ((p2.toUInt32 >>> ((16 : Int32) &&& 31).toUInt32).toInt32))])
    refine GoesW.step (fun _ k => XS.i2c X0.here hx rfl (hb hby at_32) rfl k) ?_
    show GoesW p e below s _ _ _ s₁ (mkF m 33 #[.val (.int p1), .val (.int p2), .val (.int p3), .val (.int (1 : Int32)), .val (.int c0), .val (.int c1), .val (.int c2), .unset, .unset, .unset] [(.int (((p2.toUInt32 >>> ((16 : Int32) &&& 31).toUInt32).toInt32).toUInt32.toUInt16.toUInt32.toInt32))])
    obtain ⟨c3, ec3, rc3⟩ := own_chr (((p2.toUInt32 >>> ((16 : Int32) &&& 31).toUInt32).toInt32))
    rw [ec3]
    refine GoesW.step (fun _ k => XS.istore X0.here hx rfl (hb hby at_33) rfl (l' := #[.val (.int p1), .val (.int p2), .val (.int p3), .val (.int (1 : Int32)), .val (.int c0), .val (.int c1), .val (.int c2), .val (.int c3), .unset, .unset]) rfl k) ?_
    refine GoesW.step (fun _ k => XS.iloadN X0.here hx rfl (hb hby at_35) rfl k) ?_
    refine GoesW.step (fun _ k => XS.ifYes X0.here hx rfl (pc0 := 36) (pc' := 54) rfl (hb hby at_36) rfl ((if0 _ _).trans (feq (by decide : ¬ ((1 : Int32) = (0 : Int32)))).2) (by decide) (by decide) k) ?_
    show GoesW p e below s _ _ _ s₁ (mkF m 54 #[.val (.int p1), .val (.int p2), .val (.int p3), .val (.int (1 : Int32)), .val (.int c0), .val (.int c1), .val (.int c2), .val (.int c3), .unset, .unset] [])
    refine GoesW.step (fun _ k => XS.iloadN X0.here hx rfl (hb hby at_54) rfl k) ?_
    refine GoesW.step (fun _ k => XS.iconst X0.here hx rfl (hb hby at_55) k) ?_
    refine GoesW.step (fun _ k => XS.icmpNo X0.here hx rfl (hb hby at_56) rfl (teq (by decide : (1 : Int32) = (1 : Int32))).2 k) ?_
    show GoesW p e below s _ _ _ s₁ (mkF m 59 #[.val (.int p1), .val (.int p2), .val (.int p3), .val (.int (1 : Int32)), .val (.int c0), .val (.int c1), .val (.int c2), .val (.int c3), .unset, .unset] [])
    obtain ⟨T5, h5, X5, e5, E5, A5, D5, -, st5⟩ := newO X0 hx hZ hown (hw _ (List.mem_of_getElem? (i := 2) rfl)) (hw _ (List.mem_of_getElem? (i := 3) rfl)) (hw _ (List.mem_of_getElem? (i := 4) rfl)) e0 (g := (mkF m 59 #[.val (.int p1), .val (.int p2), .val (.int p3), .val (.int (1 : Int32)), .val (.int c0), .val (.int c1), .val (.int c2), .val (.int c3), .unset, .unset] [])) rfl (hb hby at_59) (by decide) (by decide)
    obtain ⟨b5, g_5⟩ : ∃ z, z = h0.size := ⟨_, rfl⟩
    rw [← g_5] at A5 D5 st5
    refine GoesW.step st5 ?_
    have ge_b5 : n0 ≤ b5 := by rw [g_5]; exact Z0
    have sz_b5 : h0.size ≤ b5 := by rw [g_5]; exact K0.1
    have z_5 : n0 ≤ h5.size := Nat.le_trans Z0 E5.1
    have K_5 : Keep h0 h5 [] := K0.ext E5
    have E_b5_5 : Exa Z h5 b5 "java/lang/String" := A5
    have F_b5_coder_5 : Fld Z h5 b5 "java/lang/String" "coder" "B" (.int (0 : Int32)) := D5 (Or.inr (hw _ (List.mem_of_getElem? (i := 29) rfl))) (ty := .byte) (by decide)
    have F_b5_value_5 : Fld Z h5 b5 "java/lang/String" "value" "[B" .null := D5 (Or.inr (hw _ (List.mem_of_getElem? (i := 31) rfl))) (ty := (.array .byte)) (by decide)
    show GoesW p e below s _ _ _ T5 (mkF m 62 #[.val (.int p1), .val (.int p2), .val (.int p3), .val (.int (1 : Int32)), .val (.int c0), .val (.int c1), .val (.int c2), .val (.int c3), .unset, .unset] [(.ref b5)])
    refine GoesW.step (fun _ k => XS.dup X5.here hx rfl (hb hby at_62) rfl rfl k) ?_
    refine GoesW.step (fun _ k => XS.iconst X5.here hx rfl (hb hby at_63) k) ?_
    obtain ⟨T6, h6, X6, e6, E6, A6, st6⟩ := newI X5 hx hZ (hw _ (List.mem_of_getElem? (i := 5) rfl)) e5 (g := (mkF m 64 #[.val (.int p1), .val (.int p2), .val (.int p3), .val (.int (1 : Int32)), .val (.int c0), .val (.int c1), .val (.int c2), .val (.int c3), .unset, .unset] [(.int (1 : Int32)), (.ref b5), (.ref b5)])) rfl (hb hby at_64) rfl (N := 1) rfl (cap := 1) (by decide) (by decide) (by decide) (by decide) rfl (by decide)
    obtain ⟨b6, g_6⟩ : ∃ z, z = h5.size := ⟨_, rfl⟩
    rw [← g_6] at A6 st6
    refine GoesW.step st6 ?_
    have ne_b5_b6 : b5 ≠ b6 := Nat.ne_of_lt (by rw [g_6]; exact E_b5_5.lt)
    have ge_b6 : n0 ≤ b6 := by rw [g_6]; exact z_5
    have sz_b6 : h0.size ≤ b6 := by rw [g_6]; exact K_5.1
    have E_b5_6 := E_b5_5.ext E6
    have F_b5_coder_6 := F_b5_coder_5.ext E6
    have F_b5_value_6 := F_b5_value_5.ext E6
    have z_6 : n0 ≤ h6.size := Nat.le_trans z_5 E6.1
    have K_6 : Keep h0 h6 [] := K_5.ext E6
    have A_b6_6 : Ari Z h6 b6 .char (1) (fun _ => 0) := A6
    show GoesW p e below s _ _ _ T6 (mkF m 66 #[.val (.int p1), .val (.int p2), .val (.int p3), .val (.int (1 : Int32)), .val (.int c0), .val (.int c1), .val (.int c2), .val (.int c3), .unset, .unset] [(.ref b6), (.ref b5), (.ref b5)])
    refine GoesW.step (fun _ k => XS.dup X6.here hx rfl (hb hby at_66) rfl rfl k) ?_
    refine GoesW.step (fun _ k => XS.iconst X6.here hx rfl (hb hby at_67) k) ?_
    refine GoesW.step (fun _ k => XS.iload X6.here hx rfl (hb hby at_68) rfl k) ?_
    show GoesW p e below s _ _ _ T6 (mkF m 70 #[.val (.int p1), .val (.int p2), .val (.int p3), .val (.int (1 : Int32)), .val (.int c0), .val (.int c1), .val (.int c2), .val (.int c3), .unset, .unset] [(.int c0), (.int (0 : Int32)), (.ref b6), (.ref b6), (.ref b5), (.ref b5)])
    obtain ⟨T7, h7, X7, e7, W7, A7, st7⟩ := stoC X6 hx hZ e6 A_b6_6 (0) rfl (by decide) (g := (mkF m 70 #[.val (.int p1), .val (.int p2), .val (.int p3), .val (.int (1 : Int32)), .val (.int c0), .val (.int c1), .val (.int c2), .val (.int c3), .unset, .unset] [(.int c0), (.int (0 : Int32)), (.ref b6), (.ref b6), (.ref b5), (.ref b5)])) rfl rfl (hb hby at_70)
    refine GoesW.step st7 ?_
    have E_b5_7 := E_b5_6.wr W7
    have F_b5_coder_7 := F_b5_coder_6.other W7 (Or.inl ne_b5_b6)
    have F_b5_value_7 := F_b5_value_6.other W7 (Or.inl ne_b5_b6)
    have z_7 : n0 ≤ h7.size := by rw [W7.size]; exact z_6
    have K_7 : Keep h0 h7 [] := K_6.wr W7 (Or.inr sz_b6)
    have N_7 := Fr.snoc X7 N0 ge_b6
    have A_b6_7 : Ari Z h7 b6 .char (1) (updI (fun _ => 0) (0) (nar .char c0)) := A7
    show GoesW p e below s _ _ _ T7 (mkF m 71 #[.val (.int p1), .val (.int p2), .val (.int p3), .val (.int (1 : Int32)), .val (.int c0), .val (.int c1), .val (.int c2), .val (.int c3), .unset, .unset] [(.ref b6), (.ref b5), (.ref b5)])
    have AC := A_b6_7.cast (g := (own_cs c0 c1 c2 c3)) (own_ch1 rc0 rc1 rc2 rc3)
    obtain ⟨v8, T8, h8, L8, X8, e8, Q8, st8⟩ := callXI X7 hx hZ (b := b5) (y := (⟨"java/lang/String", "<init>", "([C)V"⟩ : MethodName)) hown rfl (hw _ (List.mem_of_getElem? (i := 6) rfl)) (hw _ (List.mem_of_getElem? (i := 7) rfl)) (hw _ (List.mem_of_getElem? (i := 8) rfl)) (hw _ (List.mem_of_getElem? (i := 4) rfl)) (by decide) (W := 1) (argsL := [(.ref b6)]) (rest := [(.ref b5)]) (rm1n1 l Z a0 hw [] b5 b6 G1 (own_cs c0 c1 c2 c3) h7 n0 z_7 O2 P3 (OL.keep K_7 all0) O5 O6 O7 E_b5_7 F_b5_value_7 F_b5_coder_7 ge_b5 AC (own_csr rc0 rc1 rc2 rc3 1) (Ne.symm ne_b5_b6)) (by decide) (by decide) (by decide) (by decide) e7 (g := (mkF m 71 #[.val (.int p1), .val (.int p2), .val (.int p3), .val (.int (1 : Int32)), .val (.int c0), .val (.int c1), .val (.int c2), .val (.int c3), .unset, .unset] [(.ref b6), (.ref b5), (.ref b5)])) rfl (by rw [hml]; rfl) (lenOf pd_0_0 rfl) rfl (by show 2 * 0 + _ ≤ _; exact Nat.le_of_eq rfl) (hb hby at_71)
    obtain ⟨rfl, NQ8, KQ8, hT8⟩ := Q8
    refine GoesW.step st8 ?_
    have E_b5_8 := E_b5_7.keep KQ8
    have A_b6_8 := A_b6_7.keep KQ8 (ninS (Ne.symm ne_b5_b6) nin0)
    have z_8 : n0 ≤ h8.size := Nat.le_trans z_7 KQ8.1
    have K_8 : Keep h0 h8 [] := Keep.trans K_7 KQ8 (allS (Or.inr sz_b5) all0)
    have N_8 := Fr.app N_7 NQ8
    show GoesW p e below s _ _ _ T8 (mkF m 74 #[.val (.int p1), .val (.int p2), .val (.int p3), .val (.int (1 : Int32)), .val (.int c0), .val (.int c1), .val (.int c2), .val (.int c3), .unset, .unset] [(.ref b5)])
    refine GoesW.step (fun _ k => XS.astore X8.here hx rfl (hb hby at_74) rfl rfl (l' := #[.val (.int p1), .val (.int p2), .val (.int p3), .val (.int (1 : Int32)), .val (.int c0), .val (.int c1), .val (.int c2), .val (.int c3), .val (.ref b5), .unset]) rfl k) ?_
    refine GoesW.step (fun _ k => XS.goto X8.here hx rfl (pc0 := 76) (pc' := 176) rfl (hb hby at_76) (by decide) (by decide) k) ?_
    refine GoesW.step (fun _ k => XS.iconst X8.here hx rfl (hb hby at_176) k) ?_
    show GoesW p e below s _ _ _ T8 (mkF m 177 #[.val (.int p1), .val (.int p2), .val (.int p3), .val (.int (1 : Int32)), .val (.int c0), .val (.int c1), .val (.int c2), .val (.int c3), .val (.ref b5), .unset] [(.int (-1 : Int32))])
    refine GoesW.step (fun _ k => XS.istore X8.here hx rfl (hb hby at_177) rfl (l' := #[.val (.int p1), .val (.int p2), .val (.int p3), .val (.int (1 : Int32)), .val (.int c0), .val (.int c1), .val (.int c2), .val (.int c3), .val (.ref b5), .val (.int (-1 : Int32))]) rfl k) ?_
    refine GoesW.step (fun _ k => XS.iloadN X8.here hx rfl (hb hby at_179) rfl k) ?_
    refine GoesW.step (fun _ k => XS.iconst X8.here hx rfl (hb hby at_180) k) ?_
    show GoesW p e below s _ _ _ T8 (mkF m 181 #[.val (.int p1), .val (.int p2), .val (.int p3), .val (.int (1 : Int32)), .val (.int c0), .val (.int c1), .val (.int c2), .val (.int c3), .val (.ref b5), .val (.int (-1 : Int32))] [(.int (3 : Int32)), (.int (1 : Int32))])
    refine GoesW.step (fun _ k => XS.icmpYes X8.here hx rfl (pc0 := 181) (pc' := 195) rfl (hb hby at_181) rfl (flt (by decide : ¬ ((3 : Int32) < (1 : Int32)))).2.2.2 (by decide) (by decide) k) ?_
    show GoesW p e below s _ _ _ T8 (mkF m 195 #[.val (.int p1), .val (.int p2), .val (.int p3), .val (.int (1 : Int32)), .val (.int c0), .val (.int c1), .val (.int c2), .val (.int c3), .val (.ref b5), .val (.int (-1 : Int32))] [])
    refine GoesW.step (fun _ k => XS.iloadN X8.here hx rfl (hb hby at_195) rfl k) ?_
    refine GoesW.step (fun _ k => XS.iconst X8.here hx rfl (hb hby at_196) k) ?_
    refine GoesW.step (fun _ k => XS.icmpYes X8.here hx rfl (pc0 := 197) (pc' := 211) rfl (hb hby at_197) rfl (flt (by decide : ¬ ((2 : Int32) < (1 : Int32)))).2.2.2 (by decide) (by decide) k) ?_
    show GoesW p e below s _ _ _ T8 (mkF m 211 #[.val (.int p1), .val (.int p2), .val (.int p3), .val (.int (1 : Int32)), .val (.int c0), .val (.int c1), .val (.int c2), .val (.int c3), .val (.ref b5), .val (.int (-1 : Int32))] [])
    as_aux_lemma =>
      refine GoesW.step (fun _ k => XS.iloadN X8.here hx rfl (hb hby at_211) rfl k) ?_
      refine GoesW.step (fun _ k => XS.iconst X8.here hx rfl (hb hby at_212) k) ?_
      refine GoesW.step (fun _ k => XS.icmpYes X8.here hx rfl (pc0 := 213) (pc' := 227) rfl (hb hby at_213) rfl (flt (by decide : ¬ ((1 : Int32) < (1 : Int32)))).2.2.2 (by decide) (by decide) k) ?_
      show GoesW p e below s _ _ _ T8 (mkF m 227 #[.val (.int p1), .val (.int p2), .val (.int p3), .val (.int (1 : Int32)), .val (.int c0), .val (.int c1), .val (.int c2), .val (.int c3), .val (.ref b5), .val (.int (-1 : Int32))] [])
      refine GoesW.step (fun _ k => XS.iloadN X8.here hx rfl (hb hby at_227) rfl k) ?_
      refine GoesW.step (fun _ k => XS.ifNo X8.here hx rfl (hb hby at_228) rfl ((if0 _ _).trans (tlt (by decide : (0 : Int32) < (1 : Int32))).2.2.2) k) ?_
      show GoesW p e below s _ _ _ T8 (mkF m 231 #[.val (.int p1), .val (.int p2), .val (.int p3), .val (.int (1 : Int32)), .val (.int c0), .val (.int c1), .val (.int c2), .val (.int c3), .val (.ref b5), .val (.int (-1 : Int32))] [])
      refine GoesW.step (fun _ k => XS.iload X8.here hx rfl (hb hby at_231) rfl k) ?_
      obtain ⟨T9, X9, e9, st9⟩ := callPure X8 hx hZ (y := (⟨"com/example/cartouche/cartouche/ControlCharactersIndexInPinLaw", "ctrl", "(C)Z"⟩ : MethodName)) hown (hw _ (List.mem_of_getElem? (i := 32) rfl)) (hw _ (List.mem_of_getElem? (i := 33) rfl)) (hw _ (List.mem_of_getElem? (i := 34) rfl)) (hw _ (List.mem_of_getElem? (i := 35) rfl)) (by decide) (W := 0) (argsL := [(.int c0)]) (rest := []) (r := (.int (f7 c0))) (fun _ _ _ q => q) (rm7 l Z a0 hw [] c0 h8 ) (by decide) (by decide) (by decide) (by decide) e8 (g := (mkF m 233 #[.val (.int p1), .val (.int p2), .val (.int p3), .val (.int (1 : Int32)), .val (.int c0), .val (.int c1), .val (.int c2), .val (.int c3), .val (.ref b5), .val (.int (-1 : Int32))] [(.int c0)])) rfl (by rw [hml]; rfl) (lenOf pd_0_2 rfl) rfl (by show 2 * 0 + _ ≤ _; exact Nat.le_of_eq rfl) (hb hby at_233)
      refine GoesW.step st9 ?_
      show GoesW p e below s _ _ _ T9 (mkF m 236 #[.val (.int p1), .val (.int p2), .val (.int p3), .val (.int (1 : Int32)), .val (.int c0), .val (.int c1), .val (.int c2), .val (.int c3), .val (.ref b5), .val (.int (-1 : Int32))] [(.int (f7 c0))])
      by_cases hc236 : (f7 c0) = (0 : Int32)
      · refine GoesW.step (fun _ k => XS.ifYes X9.here hx rfl (pc0 := 236) (pc' := 242) rfl (hb hby at_236) rfl ((if0 _ _).trans (teq hc236).1) (by decide) (by decide) k) ?_
        show GoesW p e below s _ _ _ T9 (mkF m 242 #[.val (.int p1), .val (.int p2), .val (.int p3), .val (.int (1 : Int32)), .val (.int c0), .val (.int c1), .val (.int c2), .val (.int c3), .val (.ref b5), .val (.int (-1 : Int32))] [])
        refine GoesW.step (fun _ k => XS.aload X9.here hx rfl (hb hby at_242) rfl rfl k) ?_
        obtain ⟨T10, X10, e10, st10⟩ := own_pure (r := some (.int (own_ix (fun i => f16 ((own_cs c0 c1 c2 c3) i)) 1 0))) (fun _ _ _ q => q) (callX X9 hx hZ (y := (⟨"com/example/cartouche/cartouche/ControlCharacters", "indexIn", "(Ljava/lang/String;)I"⟩ : MethodName)) hown (hw _ (List.mem_of_getElem? (i := 36) rfl)) (hw _ (List.mem_of_getElem? (i := 37) rfl)) (hw _ (List.mem_of_getElem? (i := 38) rfl)) (hw _ (List.mem_of_getElem? (i := 39) rfl)) (by decide) (W := 0) (argsL := [(.ref b5)]) (rest := []) (rm8n1 l Z a0 hw [] b5 G1 oF (own_cs c0 c1 c2 c3) h8 n0 z_8 O2 P3 (OL.keep K_8 all0) O4 O5 O6 O7 hT8) (by decide) (by decide) (by decide) (by decide) e9 (g := (mkF m 244 #[.val (.int p1), .val (.int p2), .val (.int p3), .val (.int (1 : Int32)), .val (.int c0), .val (.int c1), .val (.int c2), .val (.int c3), .val (.ref b5), .val (.int (-1 : Int32))] [(.ref b5)])) rfl (by rw [hml]; rfl) (lenOf pd_0_1 rfl) rfl (by show 2 * 0 + _ ≤ _; exact Nat.le_of_eq rfl) (hb hby at_244))
        refine GoesW.step st10 ?_
        show GoesW p e below s _ _ _ T10 (mkF m 247 #[.val (.int p1), .val (.int p2), .val (.int p3), .val (.int (1 : Int32)), .val (.int c0), .val (.int c1), .val (.int c2), .val (.int c3), .val (.ref b5), .val (.int (-1 : Int32))] [(.int (own_ix (fun i => f16 ((own_cs c0 c1 c2 c3) i)) 1 0))])
        refine GoesW.step (fun _ k => XS.iload X10.here hx rfl (hb hby at_247) rfl k) ?_
        refine GoesW.step (fun _ k => XS.icmpNo X10.here hx rfl (hb hby at_249) rfl (teq (by rw [own_x1]; simp [own_cs, own_same, hc236])).2 k) ?_
        show GoesW p e below s _ _ _ T10 (mkF m 252 #[.val (.int p1), .val (.int p2), .val (.int p3), .val (.int (1 : Int32)), .val (.int c0), .val (.int c1), .val (.int c2), .val (.int c3), .val (.ref b5), .val (.int (-1 : Int32))] [])
        refine GoesW.step (fun _ k => XS.iconst X10.here hx rfl (hb hby at_252) k) ?_
        refine GoesW.step (fun _ k => XS.goto X10.here hx rfl (pc0 := 253) (pc' := 257) rfl (hb hby at_253) (by decide) (by decide) k) ?_
        show GoesW p e below s _ _ _ T10 (mkF m 257 #[.val (.int p1), .val (.int p2), .val (.int p3), .val (.int (1 : Int32)), .val (.int c0), .val (.int c1), .val (.int c2), .val (.int c3), .val (.ref b5), .val (.int (-1 : Int32))] [(.int (1 : Int32))])
        exact GoesW.outN (s := s) (vm₁ := s.vm) X10 ((State.WarmedH.refl s).since 0) (Nat.zero_le _) hx hlk (t := .boolean) Bd.returns (by simp) (hb hby at_257) ⟨rfl, N_8⟩ (by decide) (by decide)
      · refine GoesW.step (fun _ k => XS.ifNo X9.here hx rfl (hb hby at_236) rfl ((if0 _ _).trans (feq hc236).1) k) ?_
        show GoesW p e below s _ _ _ T9 (mkF m 239 #[.val (.int p1), .val (.int p2), .val (.int p3), .val (.int (1 : Int32)), .val (.int c0), .val (.int c1), .val (.int c2), .val (.int c3), .val (.ref b5), .val (.int (-1 : Int32))] [])
        refine GoesW.step (fun _ k => XS.iconst X9.here hx rfl (hb hby at_239) k) ?_
        refine GoesW.step (fun _ k => XS.istore X9.here hx rfl (hb hby at_240) rfl (l' := #[.val (.int p1), .val (.int p2), .val (.int p3), .val (.int (1 : Int32)), .val (.int c0), .val (.int c1), .val (.int c2), .val (.int c3), .val (.ref b5), .val (.int (0 : Int32))]) rfl k) ?_
        refine GoesW.step (fun _ k => XS.aload X9.here hx rfl (hb hby at_242) rfl rfl k) ?_
        show GoesW p e below s _ _ _ T9 (mkF m 244 #[.val (.int p1), .val (.int p2), .val (.int p3), .val (.int (1 : Int32)), .val (.int c0), .val (.int c1), .val (.int c2), .val (.int c3), .val (.ref b5), .val (.int (0 : Int32))] [(.ref b5)])
        obtain ⟨T11, X11, e11, st11⟩ := own_pure (r := some (.int (own_ix (fun i => f16 ((own_cs c0 c1 c2 c3) i)) 1 0))) (fun _ _ _ q => q) (callX X9 hx hZ (y := (⟨"com/example/cartouche/cartouche/ControlCharacters", "indexIn", "(Ljava/lang/String;)I"⟩ : MethodName)) hown (hw _ (List.mem_of_getElem? (i := 36) rfl)) (hw _ (List.mem_of_getElem? (i := 37) rfl)) (hw _ (List.mem_of_getElem? (i := 38) rfl)) (hw _ (List.mem_of_getElem? (i := 39) rfl)) (by decide) (W := 0) (argsL := [(.ref b5)]) (rest := []) (rm8n1 l Z a0 hw [] b5 G1 oF (own_cs c0 c1 c2 c3) h8 n0 z_8 O2 P3 (OL.keep K_8 all0) O4 O5 O6 O7 hT8) (by decide) (by decide) (by decide) (by decide) e9 (g := (mkF m 244 #[.val (.int p1), .val (.int p2), .val (.int p3), .val (.int (1 : Int32)), .val (.int c0), .val (.int c1), .val (.int c2), .val (.int c3), .val (.ref b5), .val (.int (0 : Int32))] [(.ref b5)])) rfl (by rw [hml]; rfl) (lenOf pd_0_1 rfl) rfl (by show 2 * 0 + _ ≤ _; exact Nat.le_of_eq rfl) (hb hby at_244))
        refine GoesW.step st11 ?_
        show GoesW p e below s _ _ _ T11 (mkF m 247 #[.val (.int p1), .val (.int p2), .val (.int p3), .val (.int (1 : Int32)), .val (.int c0), .val (.int c1), .val (.int c2), .val (.int c3), .val (.ref b5), .val (.int (0 : Int32))] [(.int (own_ix (fun i => f16 ((own_cs c0 c1 c2 c3) i)) 1 0))])
        refine GoesW.step (fun _ k => XS.iload X11.here hx rfl (hb hby at_247) rfl k) ?_
        refine GoesW.step (fun _ k => XS.icmpNo X11.here hx rfl (hb hby at_249) rfl (teq (by rw [own_x1]; simp [own_cs, own_same, hc236])).2 k) ?_
        show GoesW p e below s _ _ _ T11 (mkF m 252 #[.val (.int p1), .val (.int p2), .val (.int p3), .val (.int (1 : Int32)), .val (.int c0), .val (.int c1), .val (.int c2), .val (.int c3), .val (.ref b5), .val (.int (0 : Int32))] [])
        refine GoesW.step (fun _ k => XS.iconst X11.here hx rfl (hb hby at_252) k) ?_
        refine GoesW.step (fun _ k => XS.goto X11.here hx rfl (pc0 := 253) (pc' := 257) rfl (hb hby at_253) (by decide) (by decide) k) ?_
        show GoesW p e below s _ _ _ T11 (mkF m 257 #[.val (.int p1), .val (.int p2), .val (.int p3), .val (.int (1 : Int32)), .val (.int c0), .val (.int c1), .val (.int c2), .val (.int c3), .val (.ref b5), .val (.int (0 : Int32))] [(.int (1 : Int32))])
        exact GoesW.outN (s := s) (vm₁ := s.vm) X11 ((State.WarmedH.refl s).since 0) (Nat.zero_le _) hx hlk (t := .boolean) Bd.returns (by simp) (hb hby at_257) ⟨rfl, N_8⟩ (by decide) (by decide)
  · rw [hq]
    refine GoesW.step (fun _ k => XS.istoreN X0.here hx rfl (hb hby at_6) rfl (l' := #[.val (.int p1), .val (.int p2), .val (.int p3), .val (.int (2 : Int32)), .unset, .unset, .unset, .unset, .unset, .unset]) rfl k) ?_
    refine GoesW.step (fun _ k => XS.iloadN X0.here hx rfl (hb hby at_7) rfl k) ?_
    refine GoesW.step (fun _ k => X0.ldcInt hx hown (mvT hZ (hw _ (List.mem_of_getElem? (i := 1) rfl))) (g := (mkF m 8 #[.val (.int p1), .val (.int p2), .val (.int p3), .val (.int (2 : Int32)), .unset, .unset, .unset, .unset, .unset, .unset] [(.int p1)])) rfl (hb hby at_8) _ k) ?_
    show GoesW p e below s _ _ _ s₁ (mkF m 10 #[.val (.int p1), .val (.int p2), .val (.int p3), .val (.int (2 : Int32)), .unset, .unset, .unset, .unset, .unset, .unset] [(.int (65535 : Int32)), (.int p1)])
    refine GoesW.step (fun _ k => XS.iand X0.here hx rfl (hb hby at_10) rfl k) ?_
    refine GoesW.step (fun _ k => XS.i2c X0.here hx rfl (hb hby at_11) rfl k) ?_
    show GoesW p e below s _ _ _ s₁ (mkF m 12 #[.val (.int p1), .val (.int p2), .val (.int p3), .val (.int (2 : Int32)), .unset, .unset, .unset, .unset, .unset, .unset] [(.int ((p1 &&& (65535 : Int32)).toUInt32.toUInt16.toUInt32.toInt32))])
    obtain ⟨c0, ec0, rc0⟩ := own_chr ((p1 &&& (65535 : Int32)))
    rw [ec0]
    refine GoesW.step (fun _ k => XS.istore X0.here hx rfl (hb hby at_12) rfl (l' := #[.val (.int p1), .val (.int p2), .val (.int p3), .val (.int (2 : Int32)), .val (.int c0), .unset, .unset, .unset, .unset, .unset]) rfl k) ?_
    refine GoesW.step (fun _ k => XS.iloadN X0.here hx rfl (hb hby at_14) rfl k) ?_
    refine GoesW.step (fun _ k => XS.bipush X0.here hx rfl (hb hby at_15) k) ?_
    show GoesW p e below s _ _ _ s₁ (mkF m 17 #[.val (.int p1), .val (.int p2), .val (.int p3), .val (.int (2 : Int32)), .val (.int c0), .unset, .unset, .unset, .unset, .unset] [(.int (16 : Int32)), (.int p1)])
    refine GoesW.step (fun _ k => XS.iushr X0.here hx rfl (hb hby at_17) rfl k) ?_
    show GoesW p e below s _ _ _ s₁ (mkF m 18 #[.val (.int p1), .val (.int p2), .val (.int p3), .val (.int (2 : Int32)), .val (.int c0), .unset, .unset, .unset, .unset, .unset] [(.int ((p1.toUInt32 >>> ((16 : Int32) &&& 31).toUInt32).toInt32))])
    refine GoesW.step (fun _ k => XS.i2c X0.here hx rfl (hb hby at_18) rfl k) ?_
    show GoesW p e below s _ _ _ s₁ (mkF m 19 #[.val (.int p1), .val (.int p2), .val (.int p3), .val (.int (2 : Int32)), .val (.int c0), .unset, .unset, .unset, .unset, .unset] [(.int (((p1.toUInt32 >>> ((16 : Int32) &&& 31).toUInt32).toInt32).toUInt32.toUInt16.toUInt32.toInt32))])
    obtain ⟨c1, ec1, rc1⟩ := own_chr (((p1.toUInt32 >>> ((16 : Int32) &&& 31).toUInt32).toInt32))
    rw [ec1]
    refine GoesW.step (fun _ k => XS.istore X0.here hx rfl (hb hby at_19) rfl (l' := #[.val (.int p1), .val (.int p2), .val (.int p3), .val (.int (2 : Int32)), .val (.int c0), .val (.int c1), .unset, .unset, .unset, .unset]) rfl k) ?_
    refine GoesW.step (fun _ k => XS.iloadN X0.here hx rfl (hb hby at_21) rfl k) ?_
    refine GoesW.step (fun _ k => X0.ldcInt hx hown (mvT hZ (hw _ (List.mem_of_getElem? (i := 1) rfl))) (g := (mkF m 22 #[.val (.int p1), .val (.int p2), .val (.int p3), .val (.int (2 : Int32)), .val (.int c0), .val (.int c1), .unset, .unset, .unset, .unset] [(.int p2)])) rfl (hb hby at_22) _ k) ?_
    show GoesW p e below s _ _ _ s₁ (mkF m 24 #[.val (.int p1), .val (.int p2), .val (.int p3), .val (.int (2 : Int32)), .val (.int c0), .val (.int c1), .unset, .unset, .unset, .unset] [(.int (65535 : Int32)), (.int p2)])
    refine GoesW.step (fun _ k => XS.iand X0.here hx rfl (hb hby at_24) rfl k) ?_
    refine GoesW.step (fun _ k => XS.i2c X0.here hx rfl (hb hby at_25) rfl k) ?_
    show GoesW p e below s _ _ _ s₁ (mkF m 26 #[.val (.int p1), .val (.int p2), .val (.int p3), .val (.int (2 : Int32)), .val (.int c0), .val (.int c1), .unset, .unset, .unset, .unset] [(.int ((p2 &&& (65535 : Int32)).toUInt32.toUInt16.toUInt32.toInt32))])
    obtain ⟨c2, ec2, rc2⟩ := own_chr ((p2 &&& (65535 : Int32)))
    rw [ec2]
    refine GoesW.step (fun _ k => XS.istore X0.here hx rfl (hb hby at_26) rfl (l' := #[.val (.int p1), .val (.int p2), .val (.int p3), .val (.int (2 : Int32)), .val (.int c0), .val (.int c1), .val (.int c2), .unset, .unset, .unset]) rfl k) ?_
    refine GoesW.step (fun _ k => XS.iloadN X0.here hx rfl (hb hby at_28) rfl k) ?_
    refine GoesW.step (fun _ k => XS.bipush X0.here hx rfl (hb hby at_29) k) ?_
    show GoesW p e below s _ _ _ s₁ (mkF m 31 #[.val (.int p1), .val (.int p2), .val (.int p3), .val (.int (2 : Int32)), .val (.int c0), .val (.int c1), .val (.int c2), .unset, .unset, .unset] [(.int (16 : Int32)), (.int p2)])
    refine GoesW.step (fun _ k => XS.iushr X0.here hx rfl (hb hby at_31) rfl k) ?_
    show GoesW p e below s _ _ _ s₁ (mkF m 32 #[.val (.int p1), .val (.int p2), .val (.int p3), .val (.int (2 : Int32)), .val (.int c0), .val (.int c1), .val (.int c2), .unset, .unset, .unset] [(.int ((p2.toUInt32 >>> ((16 : Int32) &&& 31).toUInt32).toInt32))])
    refine GoesW.step (fun _ k => XS.i2c X0.here hx rfl (hb hby at_32) rfl k) ?_
    show GoesW p e below s _ _ _ s₁ (mkF m 33 #[.val (.int p1), .val (.int p2), .val (.int p3), .val (.int (2 : Int32)), .val (.int c0), .val (.int c1), .val (.int c2), .unset, .unset, .unset] [(.int (((p2.toUInt32 >>> ((16 : Int32) &&& 31).toUInt32).toInt32).toUInt32.toUInt16.toUInt32.toInt32))])
    obtain ⟨c3, ec3, rc3⟩ := own_chr (((p2.toUInt32 >>> ((16 : Int32) &&& 31).toUInt32).toInt32))
    rw [ec3]
    refine GoesW.step (fun _ k => XS.istore X0.here hx rfl (hb hby at_33) rfl (l' := #[.val (.int p1), .val (.int p2), .val (.int p3), .val (.int (2 : Int32)), .val (.int c0), .val (.int c1), .val (.int c2), .val (.int c3), .unset, .unset]) rfl k) ?_
    refine GoesW.step (fun _ k => XS.iloadN X0.here hx rfl (hb hby at_35) rfl k) ?_
    refine GoesW.step (fun _ k => XS.ifYes X0.here hx rfl (pc0 := 36) (pc' := 54) rfl (hb hby at_36) rfl ((if0 _ _).trans (feq (by decide : ¬ ((2 : Int32) = (0 : Int32)))).2) (by decide) (by decide) k) ?_
    show GoesW p e below s _ _ _ s₁ (mkF m 54 #[.val (.int p1), .val (.int p2), .val (.int p3), .val (.int (2 : Int32)), .val (.int c0), .val (.int c1), .val (.int c2), .val (.int c3), .unset, .unset] [])
    refine GoesW.step (fun _ k => XS.iloadN X0.here hx rfl (hb hby at_54) rfl k) ?_
    refine GoesW.step (fun _ k => XS.iconst X0.here hx rfl (hb hby at_55) k) ?_
    refine GoesW.step (fun _ k => XS.icmpYes X0.here hx rfl (pc0 := 56) (pc' := 79) rfl (hb hby at_56) rfl (feq (by decide : ¬ ((2 : Int32) = (1 : Int32)))).2 (by decide) (by decide) k) ?_
    show GoesW p e below s _ _ _ s₁ (mkF m 79 #[.val (.int p1), .val (.int p2), .val (.int p3), .val (.int (2 : Int32)), .val (.int c0), .val (.int c1), .val (.int c2), .val (.int c3), .unset, .unset] [])
    refine GoesW.step (fun _ k => XS.iloadN X0.here hx rfl (hb hby at_79) rfl k) ?_
    refine GoesW.step (fun _ k => XS.iconst X0.here hx rfl (hb hby at_80) k) ?_
    refine GoesW.step (fun _ k => XS.icmpNo X0.here hx rfl (hb hby at_81) rfl (teq (by decide : (2 : Int32) = (2 : Int32))).2 k) ?_
    show GoesW p e below s _ _ _ s₁ (mkF m 84 #[.val (.int p1), .val (.int p2), .val (.int p3), .val (.int (2 : Int32)), .val (.int c0), .val (.int c1), .val (.int c2), .val (.int c3), .unset, .unset] [])
    obtain ⟨T12, h12, X12, e12, E12, A12, D12, -, st12⟩ := newO X0 hx hZ hown (hw _ (List.mem_of_getElem? (i := 2) rfl)) (hw _ (List.mem_of_getElem? (i := 3) rfl)) (hw _ (List.mem_of_getElem? (i := 4) rfl)) e0 (g := (mkF m 84 #[.val (.int p1), .val (.int p2), .val (.int p3), .val (.int (2 : Int32)), .val (.int c0), .val (.int c1), .val (.int c2), .val (.int c3), .unset, .unset] [])) rfl (hb hby at_84) (by decide) (by decide)
    obtain ⟨b12, g_12⟩ : ∃ z, z = h0.size := ⟨_, rfl⟩
    rw [← g_12] at A12 D12 st12
    refine GoesW.step st12 ?_
    have ge_b12 : n0 ≤ b12 := by rw [g_12]; exact Z0
    have sz_b12 : h0.size ≤ b12 := by rw [g_12]; exact K0.1
    have z_12 : n0 ≤ h12.size := Nat.le_trans Z0 E12.1
    have K_12 : Keep h0 h12 [] := K0.ext E12
    have E_b12_12 : Exa Z h12 b12 "java/lang/String" := A12
    have F_b12_coder_12 : Fld Z h12 b12 "java/lang/String" "coder" "B" (.int (0 : Int32)) := D12 (Or.inr (hw _ (List.mem_of_getElem? (i := 29) rfl))) (ty := .byte) (by decide)
    have F_b12_value_12 : Fld Z h12 b12 "java/lang/String" "value" "[B" .null := D12 (Or.inr (hw _ (List.mem_of_getElem? (i := 31) rfl))) (ty := (.array .byte)) (by decide)
    show GoesW p e below s _ _ _ T12 (mkF m 87 #[.val (.int p1), .val (.int p2), .val (.int p3), .val (.int (2 : Int32)), .val (.int c0), .val (.int c1), .val (.int c2), .val (.int c3), .unset, .unset] [(.ref b12)])
    refine GoesW.step (fun _ k => XS.dup X12.here hx rfl (hb hby at_87) rfl rfl k) ?_
    refine GoesW.step (fun _ k => XS.iconst X12.here hx rfl (hb hby at_88) k) ?_
    obtain ⟨T13, h13, X13, e13, E13, A13, st13⟩ := newI X12 hx hZ (hw _ (List.mem_of_getElem? (i := 5) rfl)) e12 (g := (mkF m 89 #[.val (.int p1), .val (.int p2), .val (.int p3), .val (.int (2 : Int32)), .val (.int c0), .val (.int c1), .val (.int c2), .val (.int c3), .unset, .unset] [(.int (2 : Int32)), (.ref b12), (.ref b12)])) rfl (hb hby at_89) rfl (N := 2) rfl (cap := 2) (by decide) (by decide) (by decide) (by decide) rfl (by decide)
    obtain ⟨b13, g_13⟩ : ∃ z, z = h12.size := ⟨_, rfl⟩
    rw [← g_13] at A13 st13
    refine GoesW.step st13 ?_
    have ne_b12_b13 : b12 ≠ b13 := Nat.ne_of_lt (by rw [g_13]; exact E_b12_12.lt)
    have ge_b13 : n0 ≤ b13 := by rw [g_13]; exact z_12
    have sz_b13 : h0.size ≤ b13 := by rw [g_13]; exact K_12.1
    have E_b12_13 := E_b12_12.ext E13
    have F_b12_coder_13 := F_b12_coder_12.ext E13
    have F_b12_value_13 := F_b12_value_12.ext E13
    have z_13 : n0 ≤ h13.size := Nat.le_trans z_12 E13.1
    have K_13 : Keep h0 h13 [] := K_12.ext E13
    have A_b13_13 : Ari Z h13 b13 .char (2) (fun _ => 0) := A13
    show GoesW p e below s _ _ _ T13 (mkF m 91 #[.val (.int p1), .val (.int p2), .val (.int p3), .val (.int (2 : Int32)), .val (.int c0), .val (.int c1), .val (.int c2), .val (.int c3), .unset, .unset] [(.ref b13), (.ref b12), (.ref b12)])
    refine GoesW.step (fun _ k => XS.dup X13.here hx rfl (hb hby at_91) rfl rfl k) ?_
    refine GoesW.step (fun _ k => XS.iconst X13.here hx rfl (hb hby at_92) k) ?_
    refine GoesW.step (fun _ k => XS.iload X13.here hx rfl (hb hby at_93) rfl k) ?_
    show GoesW p e below s _ _ _ T13 (mkF m 95 #[.val (.int p1), .val (.int p2), .val (.int p3), .val (.int (2 : Int32)), .val (.int c0), .val (.int c1), .val (.int c2), .val (.int c3), .unset, .unset] [(.int c0), (.int (0 : Int32)), (.ref b13), (.ref b13), (.ref b12), (.ref b12)])
    obtain ⟨T14, h14, X14, e14, W14, A14, st14⟩ := stoC X13 hx hZ e13 A_b13_13 (0) rfl (by decide) (g := (mkF m 95 #[.val (.int p1), .val (.int p2), .val (.int p3), .val (.int (2 : Int32)), .val (.int c0), .val (.int c1), .val (.int c2), .val (.int c3), .unset, .unset] [(.int c0), (.int (0 : Int32)), (.ref b13), (.ref b13), (.ref b12), (.ref b12)])) rfl rfl (hb hby at_95)
    refine GoesW.step st14 ?_
    have E_b12_14 := E_b12_13.wr W14
    have F_b12_coder_14 := F_b12_coder_13.other W14 (Or.inl ne_b12_b13)
    have F_b12_value_14 := F_b12_value_13.other W14 (Or.inl ne_b12_b13)
    have z_14 : n0 ≤ h14.size := by rw [W14.size]; exact z_13
    have K_14 : Keep h0 h14 [] := K_13.wr W14 (Or.inr sz_b13)
    have N_14 := Fr.snoc X14 N0 ge_b13
    have A_b13_14 : Ari Z h14 b13 .char (2) (updI (fun _ => 0) (0) (nar .char c0)) := A14
    show GoesW p e below s _ _ _ T14 (mkF m 96 #[.val (.int p1), .val (.int p2), .val (.int p3), .val (.int (2 : Int32)), .val (.int c0), .val (.int c1), .val (.int c2), .val (.int c3), .unset, .unset] [(.ref b13), (.ref b12), (.ref b12)])
    refine GoesW.step (fun _ k => XS.dup X14.here hx rfl (hb hby at_96) rfl rfl k) ?_
    refine GoesW.step (fun _ k => XS.iconst X14.here hx rfl (hb hby at_97) k) ?_
    refine GoesW.step (fun _ k => XS.iload X14.here hx rfl (hb hby at_98) rfl k) ?_
    show GoesW p e below s _ _ _ T14 (mkF m 100 #[.val (.int p1), .val (.int p2), .val (.int p3), .val (.int (2 : Int32)), .val (.int c0), .val (.int c1), .val (.int c2), .val (.int c3), .unset, .unset] [(.int c1), (.int (1 : Int32)), (.ref b13), (.ref b13), (.ref b12), (.ref b12)])
    obtain ⟨T15, h15, X15, e15, W15, A15, st15⟩ := stoC X14 hx hZ e14 A_b13_14 (1) rfl (by decide) (g := (mkF m 100 #[.val (.int p1), .val (.int p2), .val (.int p3), .val (.int (2 : Int32)), .val (.int c0), .val (.int c1), .val (.int c2), .val (.int c3), .unset, .unset] [(.int c1), (.int (1 : Int32)), (.ref b13), (.ref b13), (.ref b12), (.ref b12)])) rfl rfl (hb hby at_100)
    refine GoesW.step st15 ?_
    have E_b12_15 := E_b12_14.wr W15
    have F_b12_coder_15 := F_b12_coder_14.other W15 (Or.inl ne_b12_b13)
    have F_b12_value_15 := F_b12_value_14.other W15 (Or.inl ne_b12_b13)
    have z_15 : n0 ≤ h15.size := by rw [W15.size]; exact z_14
    have K_15 : Keep h0 h15 [] := K_14.wr W15 (Or.inr sz_b13)
    have N_15 := Fr.snoc X15 N_14 ge_b13
    have A_b13_15 : Ari Z h15 b13 .char (2) (updI (updI (fun _ => 0) (0) (nar .char c0)) (1) (nar .char c1)) := A15
    show GoesW p e below s _ _ _ T15 (mkF m 101 #[.val (.int p1), .val (.int p2), .val (.int p3), .val (.int (2 : Int32)), .val (.int c0), .val (.int c1), .val (.int c2), .val (.int c3), .unset, .unset] [(.ref b13), (.ref b12), (.ref b12)])
    have AC := A_b13_15.cast (g := (own_cs c0 c1 c2 c3)) (own_ch2 rc0 rc1 rc2 rc3)
    obtain ⟨v16, T16, h16, L16, X16, e16, Q16, st16⟩ := callXI X15 hx hZ (b := b12) (y := (⟨"java/lang/String", "<init>", "([C)V"⟩ : MethodName)) hown rfl (hw _ (List.mem_of_getElem? (i := 6) rfl)) (hw _ (List.mem_of_getElem? (i := 7) rfl)) (hw _ (List.mem_of_getElem? (i := 8) rfl)) (hw _ (List.mem_of_getElem? (i := 4) rfl)) (by decide) (W := 1) (argsL := [(.ref b13)]) (rest := [(.ref b12)]) (rm1n2 l Z a0 hw [] b12 b13 G1 (own_cs c0 c1 c2 c3) h15 n0 z_15 O2 P3 (OL.keep K_15 all0) O5 O6 O7 E_b12_15 F_b12_value_15 F_b12_coder_15 ge_b12 AC (own_csr rc0 rc1 rc2 rc3 2) (Ne.symm ne_b12_b13)) (by decide) (by decide) (by decide) (by decide) e15 (g := (mkF m 101 #[.val (.int p1), .val (.int p2), .val (.int p3), .val (.int (2 : Int32)), .val (.int c0), .val (.int c1), .val (.int c2), .val (.int c3), .unset, .unset] [(.ref b13), (.ref b12), (.ref b12)])) rfl (by rw [hml]; rfl) (lenOf pd_0_0 rfl) rfl (by show 2 * 0 + _ ≤ _; exact Nat.le_of_eq rfl) (hb hby at_101)
    obtain ⟨rfl, NQ16, KQ16, hT16⟩ := Q16
    refine GoesW.step st16 ?_
    have E_b12_16 := E_b12_15.keep KQ16
    have A_b13_16 := A_b13_15.keep KQ16 (ninS (Ne.symm ne_b12_b13) nin0)
    have z_16 : n0 ≤ h16.size := Nat.le_trans z_15 KQ16.1
    have K_16 : Keep h0 h16 [] := Keep.trans K_15 KQ16 (allS (Or.inr sz_b12) all0)
    have N_16 := Fr.app N_15 NQ16
    show GoesW p e below s _ _ _ T16 (mkF m 104 #[.val (.int p1), .val (.int p2), .val (.int p3), .val (.int (2 : Int32)), .val (.int c0), .val (.int c1), .val (.int c2), .val (.int c3), .unset, .unset] [(.ref b12)])
    refine GoesW.step (fun _ k => XS.astore X16.here hx rfl (hb hby at_104) rfl rfl (l' := #[.val (.int p1), .val (.int p2), .val (.int p3), .val (.int (2 : Int32)), .val (.int c0), .val (.int c1), .val (.int c2), .val (.int c3), .val (.ref b12), .unset]) rfl k) ?_
    refine GoesW.step (fun _ k => XS.goto X16.here hx rfl (pc0 := 106) (pc' := 176) rfl (hb hby at_106) (by decide) (by decide) k) ?_
    refine GoesW.step (fun _ k => XS.iconst X16.here hx rfl (hb hby at_176) k) ?_
    show GoesW p e below s _ _ _ T16 (mkF m 177 #[.val (.int p1), .val (.int p2), .val (.int p3), .val (.int (2 : Int32)), .val (.int c0), .val (.int c1), .val (.int c2), .val (.int c3), .val (.ref b12), .unset] [(.int (-1 : Int32))])
    as_aux_lemma =>
      refine GoesW.step (fun _ k => XS.istore X16.here hx rfl (hb hby at_177) rfl (l' := #[.val (.int p1), .val (.int p2), .val (.int p3), .val (.int (2 : Int32)), .val (.int c0), .val (.int c1), .val (.int c2), .val (.int c3), .val (.ref b12), .val (.int (-1 : Int32))]) rfl k) ?_
      refine GoesW.step (fun _ k => XS.iloadN X16.here hx rfl (hb hby at_179) rfl k) ?_
      refine GoesW.step (fun _ k => XS.iconst X16.here hx rfl (hb hby at_180) k) ?_
      show GoesW p e below s _ _ _ T16 (mkF m 181 #[.val (.int p1), .val (.int p2), .val (.int p3), .val (.int (2 : Int32)), .val (.int c0), .val (.int c1), .val (.int c2), .val (.int c3), .val (.ref b12), .val (.int (-1 : Int32))] [(.int (3 : Int32)), (.int (2 : Int32))])
      refine GoesW.step (fun _ k => XS.icmpYes X16.here hx rfl (pc0 := 181) (pc' := 195) rfl (hb hby at_181) rfl (flt (by decide : ¬ ((3 : Int32) < (2 : Int32)))).2.2.2 (by decide) (by decide) k) ?_
      show GoesW p e below s _ _ _ T16 (mkF m 195 #[.val (.int p1), .val (.int p2), .val (.int p3), .val (.int (2 : Int32)), .val (.int c0), .val (.int c1), .val (.int c2), .val (.int c3), .val (.ref b12), .val (.int (-1 : Int32))] [])
      refine GoesW.step (fun _ k => XS.iloadN X16.here hx rfl (hb hby at_195) rfl k) ?_
      refine GoesW.step (fun _ k => XS.iconst X16.here hx rfl (hb hby at_196) k) ?_
      refine GoesW.step (fun _ k => XS.icmpYes X16.here hx rfl (pc0 := 197) (pc' := 211) rfl (hb hby at_197) rfl (flt (by decide : ¬ ((2 : Int32) < (2 : Int32)))).2.2.2 (by decide) (by decide) k) ?_
      show GoesW p e below s _ _ _ T16 (mkF m 211 #[.val (.int p1), .val (.int p2), .val (.int p3), .val (.int (2 : Int32)), .val (.int c0), .val (.int c1), .val (.int c2), .val (.int c3), .val (.ref b12), .val (.int (-1 : Int32))] [])
      refine GoesW.step (fun _ k => XS.iloadN X16.here hx rfl (hb hby at_211) rfl k) ?_
      refine GoesW.step (fun _ k => XS.iconst X16.here hx rfl (hb hby at_212) k) ?_
      refine GoesW.step (fun _ k => XS.icmpNo X16.here hx rfl (hb hby at_213) rfl (tlt (by decide : (1 : Int32) < (2 : Int32))).2.2.2 k) ?_
      show GoesW p e below s _ _ _ T16 (mkF m 216 #[.val (.int p1), .val (.int p2), .val (.int p3), .val (.int (2 : Int32)), .val (.int c0), .val (.int c1), .val (.int c2), .val (.int c3), .val (.ref b12), .val (.int (-1 : Int32))] [])
      refine GoesW.step (fun _ k => XS.iload X16.here hx rfl (hb hby at_216) rfl k) ?_
      obtain ⟨T17, X17, e17, st17⟩ := callPure X16 hx hZ (y := (⟨"com/example/cartouche/cartouche/ControlCharactersIndexInPinLaw", "ctrl", "(C)Z"⟩ : MethodName)) hown (hw _ (List.mem_of_getElem? (i := 32) rfl)) (hw _ (List.mem_of_getElem? (i := 33) rfl)) (hw _ (List.mem_of_getElem? (i := 34) rfl)) (hw _ (List.mem_of_getElem? (i := 35) rfl)) (by decide) (W := 0) (argsL := [(.int c1)]) (rest := []) (r := (.int (f7 c1))) (fun _ _ _ q => q) (rm7 l Z a0 hw [] c1 h16 ) (by decide) (by decide) (by decide) (by decide) e16 (g := (mkF m 218 #[.val (.int p1), .val (.int p2), .val (.int p3), .val (.int (2 : Int32)), .val (.int c0), .val (.int c1), .val (.int c2), .val (.int c3), .val (.ref b12), .val (.int (-1 : Int32))] [(.int c1)])) rfl (by rw [hml]; rfl) (lenOf pd_0_2 rfl) rfl (by show 2 * 0 + _ ≤ _; exact Nat.le_of_eq rfl) (hb hby at_218)
      refine GoesW.step st17 ?_
      show GoesW p e below s _ _ _ T17 (mkF m 221 #[.val (.int p1), .val (.int p2), .val (.int p3), .val (.int (2 : Int32)), .val (.int c0), .val (.int c1), .val (.int c2), .val (.int c3), .val (.ref b12), .val (.int (-1 : Int32))] [(.int (f7 c1))])
      by_cases hc221 : (f7 c1) = (0 : Int32)
      · refine GoesW.step (fun _ k => XS.ifYes X17.here hx rfl (pc0 := 221) (pc' := 227) rfl (hb hby at_221) rfl ((if0 _ _).trans (teq hc221).1) (by decide) (by decide) k) ?_
        show GoesW p e below s _ _ _ T17 (mkF m 227 #[.val (.int p1), .val (.int p2), .val (.int p3), .val (.int (2 : Int32)), .val (.int c0), .val (.int c1), .val (.int c2), .val (.int c3), .val (.ref b12), .val (.int (-1 : Int32))] [])
        refine GoesW.step (fun _ k => XS.iloadN X17.here hx rfl (hb hby at_227) rfl k) ?_
        refine GoesW.step (fun _ k => XS.ifNo X17.here hx rfl (hb hby at_228) rfl ((if0 _ _).trans (tlt (by decide : (0 : Int32) < (2 : Int32))).2.2.2) k) ?_
        show GoesW p e below s _ _ _ T17 (mkF m 231 #[.val (.int p1), .val (.int p2), .val (.int p3), .val (.int (2 : Int32)), .val (.int c0), .val (.int c1), .val (.int c2), .val (.int c3), .val (.ref b12), .val (.int (-1 : Int32))] [])
        refine GoesW.step (fun _ k => XS.iload X17.here hx rfl (hb hby at_231) rfl k) ?_
        obtain ⟨T18, X18, e18, st18⟩ := callPure X17 hx hZ (y := (⟨"com/example/cartouche/cartouche/ControlCharactersIndexInPinLaw", "ctrl", "(C)Z"⟩ : MethodName)) hown (hw _ (List.mem_of_getElem? (i := 32) rfl)) (hw _ (List.mem_of_getElem? (i := 33) rfl)) (hw _ (List.mem_of_getElem? (i := 34) rfl)) (hw _ (List.mem_of_getElem? (i := 35) rfl)) (by decide) (W := 0) (argsL := [(.int c0)]) (rest := []) (r := (.int (f7 c0))) (fun _ _ _ q => q) (rm7 l Z a0 hw [] c0 h16 ) (by decide) (by decide) (by decide) (by decide) e17 (g := (mkF m 233 #[.val (.int p1), .val (.int p2), .val (.int p3), .val (.int (2 : Int32)), .val (.int c0), .val (.int c1), .val (.int c2), .val (.int c3), .val (.ref b12), .val (.int (-1 : Int32))] [(.int c0)])) rfl (by rw [hml]; rfl) (lenOf pd_0_2 rfl) rfl (by show 2 * 0 + _ ≤ _; exact Nat.le_of_eq rfl) (hb hby at_233)
        refine GoesW.step st18 ?_
        show GoesW p e below s _ _ _ T18 (mkF m 236 #[.val (.int p1), .val (.int p2), .val (.int p3), .val (.int (2 : Int32)), .val (.int c0), .val (.int c1), .val (.int c2), .val (.int c3), .val (.ref b12), .val (.int (-1 : Int32))] [(.int (f7 c0))])
        by_cases hc236 : (f7 c0) = (0 : Int32)
        · refine GoesW.step (fun _ k => XS.ifYes X18.here hx rfl (pc0 := 236) (pc' := 242) rfl (hb hby at_236) rfl ((if0 _ _).trans (teq hc236).1) (by decide) (by decide) k) ?_
          show GoesW p e below s _ _ _ T18 (mkF m 242 #[.val (.int p1), .val (.int p2), .val (.int p3), .val (.int (2 : Int32)), .val (.int c0), .val (.int c1), .val (.int c2), .val (.int c3), .val (.ref b12), .val (.int (-1 : Int32))] [])
          refine GoesW.step (fun _ k => XS.aload X18.here hx rfl (hb hby at_242) rfl rfl k) ?_
          obtain ⟨T19, X19, e19, st19⟩ := own_pure (r := some (.int (own_ix (fun i => f16 ((own_cs c0 c1 c2 c3) i)) 2 0))) (fun _ _ _ q => q) (callX X18 hx hZ (y := (⟨"com/example/cartouche/cartouche/ControlCharacters", "indexIn", "(Ljava/lang/String;)I"⟩ : MethodName)) hown (hw _ (List.mem_of_getElem? (i := 36) rfl)) (hw _ (List.mem_of_getElem? (i := 37) rfl)) (hw _ (List.mem_of_getElem? (i := 38) rfl)) (hw _ (List.mem_of_getElem? (i := 39) rfl)) (by decide) (W := 0) (argsL := [(.ref b12)]) (rest := []) (rm8n2 l Z a0 hw [] b12 G1 oF (own_cs c0 c1 c2 c3) h16 n0 z_16 O2 P3 (OL.keep K_16 all0) O4 O5 O6 O7 hT16) (by decide) (by decide) (by decide) (by decide) e18 (g := (mkF m 244 #[.val (.int p1), .val (.int p2), .val (.int p3), .val (.int (2 : Int32)), .val (.int c0), .val (.int c1), .val (.int c2), .val (.int c3), .val (.ref b12), .val (.int (-1 : Int32))] [(.ref b12)])) rfl (by rw [hml]; rfl) (lenOf pd_0_1 rfl) rfl (by show 2 * 0 + _ ≤ _; exact Nat.le_of_eq rfl) (hb hby at_244))
          refine GoesW.step st19 ?_
          show GoesW p e below s _ _ _ T19 (mkF m 247 #[.val (.int p1), .val (.int p2), .val (.int p3), .val (.int (2 : Int32)), .val (.int c0), .val (.int c1), .val (.int c2), .val (.int c3), .val (.ref b12), .val (.int (-1 : Int32))] [(.int (own_ix (fun i => f16 ((own_cs c0 c1 c2 c3) i)) 2 0))])
          refine GoesW.step (fun _ k => XS.iload X19.here hx rfl (hb hby at_247) rfl k) ?_
          refine GoesW.step (fun _ k => XS.icmpNo X19.here hx rfl (hb hby at_249) rfl (teq (by rw [own_x2]; simp [own_cs, own_same, hc221, hc236])).2 k) ?_
          show GoesW p e below s _ _ _ T19 (mkF m 252 #[.val (.int p1), .val (.int p2), .val (.int p3), .val (.int (2 : Int32)), .val (.int c0), .val (.int c1), .val (.int c2), .val (.int c3), .val (.ref b12), .val (.int (-1 : Int32))] [])
          refine GoesW.step (fun _ k => XS.iconst X19.here hx rfl (hb hby at_252) k) ?_
          refine GoesW.step (fun _ k => XS.goto X19.here hx rfl (pc0 := 253) (pc' := 257) rfl (hb hby at_253) (by decide) (by decide) k) ?_
          show GoesW p e below s _ _ _ T19 (mkF m 257 #[.val (.int p1), .val (.int p2), .val (.int p3), .val (.int (2 : Int32)), .val (.int c0), .val (.int c1), .val (.int c2), .val (.int c3), .val (.ref b12), .val (.int (-1 : Int32))] [(.int (1 : Int32))])
          exact GoesW.outN (s := s) (vm₁ := s.vm) X19 ((State.WarmedH.refl s).since 0) (Nat.zero_le _) hx hlk (t := .boolean) Bd.returns (by simp) (hb hby at_257) ⟨rfl, N_16⟩ (by decide) (by decide)
        · refine GoesW.step (fun _ k => XS.ifNo X18.here hx rfl (hb hby at_236) rfl ((if0 _ _).trans (feq hc236).1) k) ?_
          show GoesW p e below s _ _ _ T18 (mkF m 239 #[.val (.int p1), .val (.int p2), .val (.int p3), .val (.int (2 : Int32)), .val (.int c0), .val (.int c1), .val (.int c2), .val (.int c3), .val (.ref b12), .val (.int (-1 : Int32))] [])
          refine GoesW.step (fun _ k => XS.iconst X18.here hx rfl (hb hby at_239) k) ?_
          refine GoesW.step (fun _ k => XS.istore X18.here hx rfl (hb hby at_240) rfl (l' := #[.val (.int p1), .val (.int p2), .val (.int p3), .val (.int (2 : Int32)), .val (.int c0), .val (.int c1), .val (.int c2), .val (.int c3), .val (.ref b12), .val (.int (0 : Int32))]) rfl k) ?_
          refine GoesW.step (fun _ k => XS.aload X18.here hx rfl (hb hby at_242) rfl rfl k) ?_
          show GoesW p e below s _ _ _ T18 (mkF m 244 #[.val (.int p1), .val (.int p2), .val (.int p3), .val (.int (2 : Int32)), .val (.int c0), .val (.int c1), .val (.int c2), .val (.int c3), .val (.ref b12), .val (.int (0 : Int32))] [(.ref b12)])
          obtain ⟨T20, X20, e20, st20⟩ := own_pure (r := some (.int (own_ix (fun i => f16 ((own_cs c0 c1 c2 c3) i)) 2 0))) (fun _ _ _ q => q) (callX X18 hx hZ (y := (⟨"com/example/cartouche/cartouche/ControlCharacters", "indexIn", "(Ljava/lang/String;)I"⟩ : MethodName)) hown (hw _ (List.mem_of_getElem? (i := 36) rfl)) (hw _ (List.mem_of_getElem? (i := 37) rfl)) (hw _ (List.mem_of_getElem? (i := 38) rfl)) (hw _ (List.mem_of_getElem? (i := 39) rfl)) (by decide) (W := 0) (argsL := [(.ref b12)]) (rest := []) (rm8n2 l Z a0 hw [] b12 G1 oF (own_cs c0 c1 c2 c3) h16 n0 z_16 O2 P3 (OL.keep K_16 all0) O4 O5 O6 O7 hT16) (by decide) (by decide) (by decide) (by decide) e18 (g := (mkF m 244 #[.val (.int p1), .val (.int p2), .val (.int p3), .val (.int (2 : Int32)), .val (.int c0), .val (.int c1), .val (.int c2), .val (.int c3), .val (.ref b12), .val (.int (0 : Int32))] [(.ref b12)])) rfl (by rw [hml]; rfl) (lenOf pd_0_1 rfl) rfl (by show 2 * 0 + _ ≤ _; exact Nat.le_of_eq rfl) (hb hby at_244))
          refine GoesW.step st20 ?_
          show GoesW p e below s _ _ _ T20 (mkF m 247 #[.val (.int p1), .val (.int p2), .val (.int p3), .val (.int (2 : Int32)), .val (.int c0), .val (.int c1), .val (.int c2), .val (.int c3), .val (.ref b12), .val (.int (0 : Int32))] [(.int (own_ix (fun i => f16 ((own_cs c0 c1 c2 c3) i)) 2 0))])
          refine GoesW.step (fun _ k => XS.iload X20.here hx rfl (hb hby at_247) rfl k) ?_
          refine GoesW.step (fun _ k => XS.icmpNo X20.here hx rfl (hb hby at_249) rfl (teq (by rw [own_x2]; simp [own_cs, own_same, hc221, hc236])).2 k) ?_
          show GoesW p e below s _ _ _ T20 (mkF m 252 #[.val (.int p1), .val (.int p2), .val (.int p3), .val (.int (2 : Int32)), .val (.int c0), .val (.int c1), .val (.int c2), .val (.int c3), .val (.ref b12), .val (.int (0 : Int32))] [])
          refine GoesW.step (fun _ k => XS.iconst X20.here hx rfl (hb hby at_252) k) ?_
          refine GoesW.step (fun _ k => XS.goto X20.here hx rfl (pc0 := 253) (pc' := 257) rfl (hb hby at_253) (by decide) (by decide) k) ?_
          show GoesW p e below s _ _ _ T20 (mkF m 257 #[.val (.int p1), .val (.int p2), .val (.int p3), .val (.int (2 : Int32)), .val (.int c0), .val (.int c1), .val (.int c2), .val (.int c3), .val (.ref b12), .val (.int (0 : Int32))] [(.int (1 : Int32))])
          exact GoesW.outN (s := s) (vm₁ := s.vm) X20 ((State.WarmedH.refl s).since 0) (Nat.zero_le _) hx hlk (t := .boolean) Bd.returns (by simp) (hb hby at_257) ⟨rfl, N_16⟩ (by decide) (by decide)
      · refine GoesW.step (fun _ k => XS.ifNo X17.here hx rfl (hb hby at_221) rfl ((if0 _ _).trans (feq hc221).1) k) ?_
        show GoesW p e below s _ _ _ T17 (mkF m 224 #[.val (.int p1), .val (.int p2), .val (.int p3), .val (.int (2 : Int32)), .val (.int c0), .val (.int c1), .val (.int c2), .val (.int c3), .val (.ref b12), .val (.int (-1 : Int32))] [])
        refine GoesW.step (fun _ k => XS.iconst X17.here hx rfl (hb hby at_224) k) ?_
        refine GoesW.step (fun _ k => XS.istore X17.here hx rfl (hb hby at_225) rfl (l' := #[.val (.int p1), .val (.int p2), .val (.int p3), .val (.int (2 : Int32)), .val (.int c0), .val (.int c1), .val (.int c2), .val (.int c3), .val (.ref b12), .val (.int (1 : Int32))]) rfl k) ?_
        refine GoesW.step (fun _ k => XS.iloadN X17.here hx rfl (hb hby at_227) rfl k) ?_
        show GoesW p e below s _ _ _ T17 (mkF m 228 #[.val (.int p1), .val (.int p2), .val (.int p3), .val (.int (2 : Int32)), .val (.int c0), .val (.int c1), .val (.int c2), .val (.int c3), .val (.ref b12), .val (.int (1 : Int32))] [(.int (2 : Int32))])
        refine GoesW.step (fun _ k => XS.ifNo X17.here hx rfl (hb hby at_228) rfl ((if0 _ _).trans (tlt (by decide : (0 : Int32) < (2 : Int32))).2.2.2) k) ?_
        show GoesW p e below s _ _ _ T17 (mkF m 231 #[.val (.int p1), .val (.int p2), .val (.int p3), .val (.int (2 : Int32)), .val (.int c0), .val (.int c1), .val (.int c2), .val (.int c3), .val (.ref b12), .val (.int (1 : Int32))] [])
        refine GoesW.step (fun _ k => XS.iload X17.here hx rfl (hb hby at_231) rfl k) ?_
        obtain ⟨T21, X21, e21, st21⟩ := callPure X17 hx hZ (y := (⟨"com/example/cartouche/cartouche/ControlCharactersIndexInPinLaw", "ctrl", "(C)Z"⟩ : MethodName)) hown (hw _ (List.mem_of_getElem? (i := 32) rfl)) (hw _ (List.mem_of_getElem? (i := 33) rfl)) (hw _ (List.mem_of_getElem? (i := 34) rfl)) (hw _ (List.mem_of_getElem? (i := 35) rfl)) (by decide) (W := 0) (argsL := [(.int c0)]) (rest := []) (r := (.int (f7 c0))) (fun _ _ _ q => q) (rm7 l Z a0 hw [] c0 h16 ) (by decide) (by decide) (by decide) (by decide) e17 (g := (mkF m 233 #[.val (.int p1), .val (.int p2), .val (.int p3), .val (.int (2 : Int32)), .val (.int c0), .val (.int c1), .val (.int c2), .val (.int c3), .val (.ref b12), .val (.int (1 : Int32))] [(.int c0)])) rfl (by rw [hml]; rfl) (lenOf pd_0_2 rfl) rfl (by show 2 * 0 + _ ≤ _; exact Nat.le_of_eq rfl) (hb hby at_233)
        refine GoesW.step st21 ?_
        show GoesW p e below s _ _ _ T21 (mkF m 236 #[.val (.int p1), .val (.int p2), .val (.int p3), .val (.int (2 : Int32)), .val (.int c0), .val (.int c1), .val (.int c2), .val (.int c3), .val (.ref b12), .val (.int (1 : Int32))] [(.int (f7 c0))])
        by_cases hc236 : (f7 c0) = (0 : Int32)
        · refine GoesW.step (fun _ k => XS.ifYes X21.here hx rfl (pc0 := 236) (pc' := 242) rfl (hb hby at_236) rfl ((if0 _ _).trans (teq hc236).1) (by decide) (by decide) k) ?_
          show GoesW p e below s _ _ _ T21 (mkF m 242 #[.val (.int p1), .val (.int p2), .val (.int p3), .val (.int (2 : Int32)), .val (.int c0), .val (.int c1), .val (.int c2), .val (.int c3), .val (.ref b12), .val (.int (1 : Int32))] [])
          refine GoesW.step (fun _ k => XS.aload X21.here hx rfl (hb hby at_242) rfl rfl k) ?_
          obtain ⟨T22, X22, e22, st22⟩ := own_pure (r := some (.int (own_ix (fun i => f16 ((own_cs c0 c1 c2 c3) i)) 2 0))) (fun _ _ _ q => q) (callX X21 hx hZ (y := (⟨"com/example/cartouche/cartouche/ControlCharacters", "indexIn", "(Ljava/lang/String;)I"⟩ : MethodName)) hown (hw _ (List.mem_of_getElem? (i := 36) rfl)) (hw _ (List.mem_of_getElem? (i := 37) rfl)) (hw _ (List.mem_of_getElem? (i := 38) rfl)) (hw _ (List.mem_of_getElem? (i := 39) rfl)) (by decide) (W := 0) (argsL := [(.ref b12)]) (rest := []) (rm8n2 l Z a0 hw [] b12 G1 oF (own_cs c0 c1 c2 c3) h16 n0 z_16 O2 P3 (OL.keep K_16 all0) O4 O5 O6 O7 hT16) (by decide) (by decide) (by decide) (by decide) e21 (g := (mkF m 244 #[.val (.int p1), .val (.int p2), .val (.int p3), .val (.int (2 : Int32)), .val (.int c0), .val (.int c1), .val (.int c2), .val (.int c3), .val (.ref b12), .val (.int (1 : Int32))] [(.ref b12)])) rfl (by rw [hml]; rfl) (lenOf pd_0_1 rfl) rfl (by show 2 * 0 + _ ≤ _; exact Nat.le_of_eq rfl) (hb hby at_244))
          refine GoesW.step st22 ?_
          show GoesW p e below s _ _ _ T22 (mkF m 247 #[.val (.int p1), .val (.int p2), .val (.int p3), .val (.int (2 : Int32)), .val (.int c0), .val (.int c1), .val (.int c2), .val (.int c3), .val (.ref b12), .val (.int (1 : Int32))] [(.int (own_ix (fun i => f16 ((own_cs c0 c1 c2 c3) i)) 2 0))])
          refine GoesW.step (fun _ k => XS.iload X22.here hx rfl (hb hby at_247) rfl k) ?_
          refine GoesW.step (fun _ k => XS.icmpNo X22.here hx rfl (hb hby at_249) rfl (teq (by rw [own_x2]; simp [own_cs, own_same, hc221, hc236])).2 k) ?_
          show GoesW p e below s _ _ _ T22 (mkF m 252 #[.val (.int p1), .val (.int p2), .val (.int p3), .val (.int (2 : Int32)), .val (.int c0), .val (.int c1), .val (.int c2), .val (.int c3), .val (.ref b12), .val (.int (1 : Int32))] [])
          refine GoesW.step (fun _ k => XS.iconst X22.here hx rfl (hb hby at_252) k) ?_
          refine GoesW.step (fun _ k => XS.goto X22.here hx rfl (pc0 := 253) (pc' := 257) rfl (hb hby at_253) (by decide) (by decide) k) ?_
          show GoesW p e below s _ _ _ T22 (mkF m 257 #[.val (.int p1), .val (.int p2), .val (.int p3), .val (.int (2 : Int32)), .val (.int c0), .val (.int c1), .val (.int c2), .val (.int c3), .val (.ref b12), .val (.int (1 : Int32))] [(.int (1 : Int32))])
          exact GoesW.outN (s := s) (vm₁ := s.vm) X22 ((State.WarmedH.refl s).since 0) (Nat.zero_le _) hx hlk (t := .boolean) Bd.returns (by simp) (hb hby at_257) ⟨rfl, N_16⟩ (by decide) (by decide)
        · refine GoesW.step (fun _ k => XS.ifNo X21.here hx rfl (hb hby at_236) rfl ((if0 _ _).trans (feq hc236).1) k) ?_
          show GoesW p e below s _ _ _ T21 (mkF m 239 #[.val (.int p1), .val (.int p2), .val (.int p3), .val (.int (2 : Int32)), .val (.int c0), .val (.int c1), .val (.int c2), .val (.int c3), .val (.ref b12), .val (.int (1 : Int32))] [])
          refine GoesW.step (fun _ k => XS.iconst X21.here hx rfl (hb hby at_239) k) ?_
          refine GoesW.step (fun _ k => XS.istore X21.here hx rfl (hb hby at_240) rfl (l' := #[.val (.int p1), .val (.int p2), .val (.int p3), .val (.int (2 : Int32)), .val (.int c0), .val (.int c1), .val (.int c2), .val (.int c3), .val (.ref b12), .val (.int (0 : Int32))]) rfl k) ?_
          refine GoesW.step (fun _ k => XS.aload X21.here hx rfl (hb hby at_242) rfl rfl k) ?_
          show GoesW p e below s _ _ _ T21 (mkF m 244 #[.val (.int p1), .val (.int p2), .val (.int p3), .val (.int (2 : Int32)), .val (.int c0), .val (.int c1), .val (.int c2), .val (.int c3), .val (.ref b12), .val (.int (0 : Int32))] [(.ref b12)])
          obtain ⟨T23, X23, e23, st23⟩ := own_pure (r := some (.int (own_ix (fun i => f16 ((own_cs c0 c1 c2 c3) i)) 2 0))) (fun _ _ _ q => q) (callX X21 hx hZ (y := (⟨"com/example/cartouche/cartouche/ControlCharacters", "indexIn", "(Ljava/lang/String;)I"⟩ : MethodName)) hown (hw _ (List.mem_of_getElem? (i := 36) rfl)) (hw _ (List.mem_of_getElem? (i := 37) rfl)) (hw _ (List.mem_of_getElem? (i := 38) rfl)) (hw _ (List.mem_of_getElem? (i := 39) rfl)) (by decide) (W := 0) (argsL := [(.ref b12)]) (rest := []) (rm8n2 l Z a0 hw [] b12 G1 oF (own_cs c0 c1 c2 c3) h16 n0 z_16 O2 P3 (OL.keep K_16 all0) O4 O5 O6 O7 hT16) (by decide) (by decide) (by decide) (by decide) e21 (g := (mkF m 244 #[.val (.int p1), .val (.int p2), .val (.int p3), .val (.int (2 : Int32)), .val (.int c0), .val (.int c1), .val (.int c2), .val (.int c3), .val (.ref b12), .val (.int (0 : Int32))] [(.ref b12)])) rfl (by rw [hml]; rfl) (lenOf pd_0_1 rfl) rfl (by show 2 * 0 + _ ≤ _; exact Nat.le_of_eq rfl) (hb hby at_244))
          refine GoesW.step st23 ?_
          show GoesW p e below s _ _ _ T23 (mkF m 247 #[.val (.int p1), .val (.int p2), .val (.int p3), .val (.int (2 : Int32)), .val (.int c0), .val (.int c1), .val (.int c2), .val (.int c3), .val (.ref b12), .val (.int (0 : Int32))] [(.int (own_ix (fun i => f16 ((own_cs c0 c1 c2 c3) i)) 2 0))])
          refine GoesW.step (fun _ k => XS.iload X23.here hx rfl (hb hby at_247) rfl k) ?_
          refine GoesW.step (fun _ k => XS.icmpNo X23.here hx rfl (hb hby at_249) rfl (teq (by rw [own_x2]; simp [own_cs, own_same, hc221, hc236])).2 k) ?_
          show GoesW p e below s _ _ _ T23 (mkF m 252 #[.val (.int p1), .val (.int p2), .val (.int p3), .val (.int (2 : Int32)), .val (.int c0), .val (.int c1), .val (.int c2), .val (.int c3), .val (.ref b12), .val (.int (0 : Int32))] [])
          refine GoesW.step (fun _ k => XS.iconst X23.here hx rfl (hb hby at_252) k) ?_
          refine GoesW.step (fun _ k => XS.goto X23.here hx rfl (pc0 := 253) (pc' := 257) rfl (hb hby at_253) (by decide) (by decide) k) ?_
          show GoesW p e below s _ _ _ T23 (mkF m 257 #[.val (.int p1), .val (.int p2), .val (.int p3), .val (.int (2 : Int32)), .val (.int c0), .val (.int c1), .val (.int c2), .val (.int c3), .val (.ref b12), .val (.int (0 : Int32))] [(.int (1 : Int32))])
          exact GoesW.outN (s := s) (vm₁ := s.vm) X23 ((State.WarmedH.refl s).since 0) (Nat.zero_le _) hx hlk (t := .boolean) Bd.returns (by simp) (hb hby at_257) ⟨rfl, N_16⟩ (by decide) (by decide)
  · rw [hq]
    refine GoesW.step (fun _ k => XS.istoreN X0.here hx rfl (hb hby at_6) rfl (l' := #[.val (.int p1), .val (.int p2), .val (.int p3), .val (.int (3 : Int32)), .unset, .unset, .unset, .unset, .unset, .unset]) rfl k) ?_
    refine GoesW.step (fun _ k => XS.iloadN X0.here hx rfl (hb hby at_7) rfl k) ?_
    refine GoesW.step (fun _ k => X0.ldcInt hx hown (mvT hZ (hw _ (List.mem_of_getElem? (i := 1) rfl))) (g := (mkF m 8 #[.val (.int p1), .val (.int p2), .val (.int p3), .val (.int (3 : Int32)), .unset, .unset, .unset, .unset, .unset, .unset] [(.int p1)])) rfl (hb hby at_8) _ k) ?_
    show GoesW p e below s _ _ _ s₁ (mkF m 10 #[.val (.int p1), .val (.int p2), .val (.int p3), .val (.int (3 : Int32)), .unset, .unset, .unset, .unset, .unset, .unset] [(.int (65535 : Int32)), (.int p1)])
    refine GoesW.step (fun _ k => XS.iand X0.here hx rfl (hb hby at_10) rfl k) ?_
    refine GoesW.step (fun _ k => XS.i2c X0.here hx rfl (hb hby at_11) rfl k) ?_
    show GoesW p e below s _ _ _ s₁ (mkF m 12 #[.val (.int p1), .val (.int p2), .val (.int p3), .val (.int (3 : Int32)), .unset, .unset, .unset, .unset, .unset, .unset] [(.int ((p1 &&& (65535 : Int32)).toUInt32.toUInt16.toUInt32.toInt32))])
    obtain ⟨c0, ec0, rc0⟩ := own_chr ((p1 &&& (65535 : Int32)))
    rw [ec0]
    refine GoesW.step (fun _ k => XS.istore X0.here hx rfl (hb hby at_12) rfl (l' := #[.val (.int p1), .val (.int p2), .val (.int p3), .val (.int (3 : Int32)), .val (.int c0), .unset, .unset, .unset, .unset, .unset]) rfl k) ?_
    refine GoesW.step (fun _ k => XS.iloadN X0.here hx rfl (hb hby at_14) rfl k) ?_
    refine GoesW.step (fun _ k => XS.bipush X0.here hx rfl (hb hby at_15) k) ?_
    show GoesW p e below s _ _ _ s₁ (mkF m 17 #[.val (.int p1), .val (.int p2), .val (.int p3), .val (.int (3 : Int32)), .val (.int c0), .unset, .unset, .unset, .unset, .unset] [(.int (16 : Int32)), (.int p1)])
    refine GoesW.step (fun _ k => XS.iushr X0.here hx rfl (hb hby at_17) rfl k) ?_
    show GoesW p e below s _ _ _ s₁ (mkF m 18 #[.val (.int p1), .val (.int p2), .val (.int p3), .val (.int (3 : Int32)), .val (.int c0), .unset, .unset, .unset, .unset, .unset] [(.int ((p1.toUInt32 >>> ((16 : Int32) &&& 31).toUInt32).toInt32))])
    refine GoesW.step (fun _ k => XS.i2c X0.here hx rfl (hb hby at_18) rfl k) ?_
    show GoesW p e below s _ _ _ s₁ (mkF m 19 #[.val (.int p1), .val (.int p2), .val (.int p3), .val (.int (3 : Int32)), .val (.int c0), .unset, .unset, .unset, .unset, .unset] [(.int (((p1.toUInt32 >>> ((16 : Int32) &&& 31).toUInt32).toInt32).toUInt32.toUInt16.toUInt32.toInt32))])
    obtain ⟨c1, ec1, rc1⟩ := own_chr (((p1.toUInt32 >>> ((16 : Int32) &&& 31).toUInt32).toInt32))
    rw [ec1]
    refine GoesW.step (fun _ k => XS.istore X0.here hx rfl (hb hby at_19) rfl (l' := #[.val (.int p1), .val (.int p2), .val (.int p3), .val (.int (3 : Int32)), .val (.int c0), .val (.int c1), .unset, .unset, .unset, .unset]) rfl k) ?_
    refine GoesW.step (fun _ k => XS.iloadN X0.here hx rfl (hb hby at_21) rfl k) ?_
    refine GoesW.step (fun _ k => X0.ldcInt hx hown (mvT hZ (hw _ (List.mem_of_getElem? (i := 1) rfl))) (g := (mkF m 22 #[.val (.int p1), .val (.int p2), .val (.int p3), .val (.int (3 : Int32)), .val (.int c0), .val (.int c1), .unset, .unset, .unset, .unset] [(.int p2)])) rfl (hb hby at_22) _ k) ?_
    show GoesW p e below s _ _ _ s₁ (mkF m 24 #[.val (.int p1), .val (.int p2), .val (.int p3), .val (.int (3 : Int32)), .val (.int c0), .val (.int c1), .unset, .unset, .unset, .unset] [(.int (65535 : Int32)), (.int p2)])
    refine GoesW.step (fun _ k => XS.iand X0.here hx rfl (hb hby at_24) rfl k) ?_
    refine GoesW.step (fun _ k => XS.i2c X0.here hx rfl (hb hby at_25) rfl k) ?_
    show GoesW p e below s _ _ _ s₁ (mkF m 26 #[.val (.int p1), .val (.int p2), .val (.int p3), .val (.int (3 : Int32)), .val (.int c0), .val (.int c1), .unset, .unset, .unset, .unset] [(.int ((p2 &&& (65535 : Int32)).toUInt32.toUInt16.toUInt32.toInt32))])
    obtain ⟨c2, ec2, rc2⟩ := own_chr ((p2 &&& (65535 : Int32)))
    rw [ec2]
    refine GoesW.step (fun _ k => XS.istore X0.here hx rfl (hb hby at_26) rfl (l' := #[.val (.int p1), .val (.int p2), .val (.int p3), .val (.int (3 : Int32)), .val (.int c0), .val (.int c1), .val (.int c2), .unset, .unset, .unset]) rfl k) ?_
    refine GoesW.step (fun _ k => XS.iloadN X0.here hx rfl (hb hby at_28) rfl k) ?_
    refine GoesW.step (fun _ k => XS.bipush X0.here hx rfl (hb hby at_29) k) ?_
    show GoesW p e below s _ _ _ s₁ (mkF m 31 #[.val (.int p1), .val (.int p2), .val (.int p3), .val (.int (3 : Int32)), .val (.int c0), .val (.int c1), .val (.int c2), .unset, .unset, .unset] [(.int (16 : Int32)), (.int p2)])
    refine GoesW.step (fun _ k => XS.iushr X0.here hx rfl (hb hby at_31) rfl k) ?_
    show GoesW p e below s _ _ _ s₁ (mkF m 32 #[.val (.int p1), .val (.int p2), .val (.int p3), .val (.int (3 : Int32)), .val (.int c0), .val (.int c1), .val (.int c2), .unset, .unset, .unset] [(.int ((p2.toUInt32 >>> ((16 : Int32) &&& 31).toUInt32).toInt32))])
    refine GoesW.step (fun _ k => XS.i2c X0.here hx rfl (hb hby at_32) rfl k) ?_
    show GoesW p e below s _ _ _ s₁ (mkF m 33 #[.val (.int p1), .val (.int p2), .val (.int p3), .val (.int (3 : Int32)), .val (.int c0), .val (.int c1), .val (.int c2), .unset, .unset, .unset] [(.int (((p2.toUInt32 >>> ((16 : Int32) &&& 31).toUInt32).toInt32).toUInt32.toUInt16.toUInt32.toInt32))])
    obtain ⟨c3, ec3, rc3⟩ := own_chr (((p2.toUInt32 >>> ((16 : Int32) &&& 31).toUInt32).toInt32))
    rw [ec3]
    refine GoesW.step (fun _ k => XS.istore X0.here hx rfl (hb hby at_33) rfl (l' := #[.val (.int p1), .val (.int p2), .val (.int p3), .val (.int (3 : Int32)), .val (.int c0), .val (.int c1), .val (.int c2), .val (.int c3), .unset, .unset]) rfl k) ?_
    refine GoesW.step (fun _ k => XS.iloadN X0.here hx rfl (hb hby at_35) rfl k) ?_
    refine GoesW.step (fun _ k => XS.ifYes X0.here hx rfl (pc0 := 36) (pc' := 54) rfl (hb hby at_36) rfl ((if0 _ _).trans (feq (by decide : ¬ ((3 : Int32) = (0 : Int32)))).2) (by decide) (by decide) k) ?_
    show GoesW p e below s _ _ _ s₁ (mkF m 54 #[.val (.int p1), .val (.int p2), .val (.int p3), .val (.int (3 : Int32)), .val (.int c0), .val (.int c1), .val (.int c2), .val (.int c3), .unset, .unset] [])
    refine GoesW.step (fun _ k => XS.iloadN X0.here hx rfl (hb hby at_54) rfl k) ?_
    refine GoesW.step (fun _ k => XS.iconst X0.here hx rfl (hb hby at_55) k) ?_
    refine GoesW.step (fun _ k => XS.icmpYes X0.here hx rfl (pc0 := 56) (pc' := 79) rfl (hb hby at_56) rfl (feq (by decide : ¬ ((3 : Int32) = (1 : Int32)))).2 (by decide) (by decide) k) ?_
    show GoesW p e below s _ _ _ s₁ (mkF m 79 #[.val (.int p1), .val (.int p2), .val (.int p3), .val (.int (3 : Int32)), .val (.int c0), .val (.int c1), .val (.int c2), .val (.int c3), .unset, .unset] [])
    refine GoesW.step (fun _ k => XS.iloadN X0.here hx rfl (hb hby at_79) rfl k) ?_
    refine GoesW.step (fun _ k => XS.iconst X0.here hx rfl (hb hby at_80) k) ?_
    refine GoesW.step (fun _ k => XS.icmpYes X0.here hx rfl (pc0 := 81) (pc' := 109) rfl (hb hby at_81) rfl (feq (by decide : ¬ ((3 : Int32) = (2 : Int32)))).2 (by decide) (by decide) k) ?_
    show GoesW p e below s _ _ _ s₁ (mkF m 109 #[.val (.int p1), .val (.int p2), .val (.int p3), .val (.int (3 : Int32)), .val (.int c0), .val (.int c1), .val (.int c2), .val (.int c3), .unset, .unset] [])
    refine GoesW.step (fun _ k => XS.iloadN X0.here hx rfl (hb hby at_109) rfl k) ?_
    refine GoesW.step (fun _ k => XS.iconst X0.here hx rfl (hb hby at_110) k) ?_
    refine GoesW.step (fun _ k => XS.icmpNo X0.here hx rfl (hb hby at_111) rfl (teq (by decide : (3 : Int32) = (3 : Int32))).2 k) ?_
    show GoesW p e below s _ _ _ s₁ (mkF m 114 #[.val (.int p1), .val (.int p2), .val (.int p3), .val (.int (3 : Int32)), .val (.int c0), .val (.int c1), .val (.int c2), .val (.int c3), .unset, .unset] [])
    obtain ⟨T24, h24, X24, e24, E24, A24, D24, -, st24⟩ := newO X0 hx hZ hown (hw _ (List.mem_of_getElem? (i := 2) rfl)) (hw _ (List.mem_of_getElem? (i := 3) rfl)) (hw _ (List.mem_of_getElem? (i := 4) rfl)) e0 (g := (mkF m 114 #[.val (.int p1), .val (.int p2), .val (.int p3), .val (.int (3 : Int32)), .val (.int c0), .val (.int c1), .val (.int c2), .val (.int c3), .unset, .unset] [])) rfl (hb hby at_114) (by decide) (by decide)
    obtain ⟨b24, g_24⟩ : ∃ z, z = h0.size := ⟨_, rfl⟩
    rw [← g_24] at A24 D24 st24
    refine GoesW.step st24 ?_
    have ge_b24 : n0 ≤ b24 := by rw [g_24]; exact Z0
    have sz_b24 : h0.size ≤ b24 := by rw [g_24]; exact K0.1
    have z_24 : n0 ≤ h24.size := Nat.le_trans Z0 E24.1
    have K_24 : Keep h0 h24 [] := K0.ext E24
    have E_b24_24 : Exa Z h24 b24 "java/lang/String" := A24
    have F_b24_coder_24 : Fld Z h24 b24 "java/lang/String" "coder" "B" (.int (0 : Int32)) := D24 (Or.inr (hw _ (List.mem_of_getElem? (i := 29) rfl))) (ty := .byte) (by decide)
    have F_b24_value_24 : Fld Z h24 b24 "java/lang/String" "value" "[B" .null := D24 (Or.inr (hw _ (List.mem_of_getElem? (i := 31) rfl))) (ty := (.array .byte)) (by decide)
    show GoesW p e below s _ _ _ T24 (mkF m 117 #[.val (.int p1), .val (.int p2), .val (.int p3), .val (.int (3 : Int32)), .val (.int c0), .val (.int c1), .val (.int c2), .val (.int c3), .unset, .unset] [(.ref b24)])
    refine GoesW.step (fun _ k => XS.dup X24.here hx rfl (hb hby at_117) rfl rfl k) ?_
    refine GoesW.step (fun _ k => XS.iconst X24.here hx rfl (hb hby at_118) k) ?_
    obtain ⟨T25, h25, X25, e25, E25, A25, st25⟩ := newI X24 hx hZ (hw _ (List.mem_of_getElem? (i := 5) rfl)) e24 (g := (mkF m 119 #[.val (.int p1), .val (.int p2), .val (.int p3), .val (.int (3 : Int32)), .val (.int c0), .val (.int c1), .val (.int c2), .val (.int c3), .unset, .unset] [(.int (3 : Int32)), (.ref b24), (.ref b24)])) rfl (hb hby at_119) rfl (N := 3) rfl (cap := 3) (by decide) (by decide) (by decide) (by decide) rfl (by decide)
    obtain ⟨b25, g_25⟩ : ∃ z, z = h24.size := ⟨_, rfl⟩
    rw [← g_25] at A25 st25
    refine GoesW.step st25 ?_
    have ne_b24_b25 : b24 ≠ b25 := Nat.ne_of_lt (by rw [g_25]; exact E_b24_24.lt)
    have ge_b25 : n0 ≤ b25 := by rw [g_25]; exact z_24
    have sz_b25 : h0.size ≤ b25 := by rw [g_25]; exact K_24.1
    have E_b24_25 := E_b24_24.ext E25
    have F_b24_coder_25 := F_b24_coder_24.ext E25
    have F_b24_value_25 := F_b24_value_24.ext E25
    have z_25 : n0 ≤ h25.size := Nat.le_trans z_24 E25.1
    have K_25 : Keep h0 h25 [] := K_24.ext E25
    have A_b25_25 : Ari Z h25 b25 .char (3) (fun _ => 0) := A25
    show GoesW p e below s _ _ _ T25 (mkF m 121 #[.val (.int p1), .val (.int p2), .val (.int p3), .val (.int (3 : Int32)), .val (.int c0), .val (.int c1), .val (.int c2), .val (.int c3), .unset, .unset] [(.ref b25), (.ref b24), (.ref b24)])
    refine GoesW.step (fun _ k => XS.dup X25.here hx rfl (hb hby at_121) rfl rfl k) ?_
    refine GoesW.step (fun _ k => XS.iconst X25.here hx rfl (hb hby at_122) k) ?_
    refine GoesW.step (fun _ k => XS.iload X25.here hx rfl (hb hby at_123) rfl k) ?_
    show GoesW p e below s _ _ _ T25 (mkF m 125 #[.val (.int p1), .val (.int p2), .val (.int p3), .val (.int (3 : Int32)), .val (.int c0), .val (.int c1), .val (.int c2), .val (.int c3), .unset, .unset] [(.int c0), (.int (0 : Int32)), (.ref b25), (.ref b25), (.ref b24), (.ref b24)])
    obtain ⟨T26, h26, X26, e26, W26, A26, st26⟩ := stoC X25 hx hZ e25 A_b25_25 (0) rfl (by decide) (g := (mkF m 125 #[.val (.int p1), .val (.int p2), .val (.int p3), .val (.int (3 : Int32)), .val (.int c0), .val (.int c1), .val (.int c2), .val (.int c3), .unset, .unset] [(.int c0), (.int (0 : Int32)), (.ref b25), (.ref b25), (.ref b24), (.ref b24)])) rfl rfl (hb hby at_125)
    refine GoesW.step st26 ?_
    have E_b24_26 := E_b24_25.wr W26
    have F_b24_coder_26 := F_b24_coder_25.other W26 (Or.inl ne_b24_b25)
    have F_b24_value_26 := F_b24_value_25.other W26 (Or.inl ne_b24_b25)
    have z_26 : n0 ≤ h26.size := by rw [W26.size]; exact z_25
    have K_26 : Keep h0 h26 [] := K_25.wr W26 (Or.inr sz_b25)
    have N_26 := Fr.snoc X26 N0 ge_b25
    have A_b25_26 : Ari Z h26 b25 .char (3) (updI (fun _ => 0) (0) (nar .char c0)) := A26
    show GoesW p e below s _ _ _ T26 (mkF m 126 #[.val (.int p1), .val (.int p2), .val (.int p3), .val (.int (3 : Int32)), .val (.int c0), .val (.int c1), .val (.int c2), .val (.int c3), .unset, .unset] [(.ref b25), (.ref b24), (.ref b24)])
    refine GoesW.step (fun _ k => XS.dup X26.here hx rfl (hb hby at_126) rfl rfl k) ?_
    refine GoesW.step (fun _ k => XS.iconst X26.here hx rfl (hb hby at_127) k) ?_
    refine GoesW.step (fun _ k => XS.iload X26.here hx rfl (hb hby at_128) rfl k) ?_
    show GoesW p e below s _ _ _ T26 (mkF m 130 #[.val (.int p1), .val (.int p2), .val (.int p3), .val (.int (3 : Int32)), .val (.int c0), .val (.int c1), .val (.int c2), .val (.int c3), .unset, .unset] [(.int c1), (.int (1 : Int32)), (.ref b25), (.ref b25), (.ref b24), (.ref b24)])
    obtain ⟨T27, h27, X27, e27, W27, A27, st27⟩ := stoC X26 hx hZ e26 A_b25_26 (1) rfl (by decide) (g := (mkF m 130 #[.val (.int p1), .val (.int p2), .val (.int p3), .val (.int (3 : Int32)), .val (.int c0), .val (.int c1), .val (.int c2), .val (.int c3), .unset, .unset] [(.int c1), (.int (1 : Int32)), (.ref b25), (.ref b25), (.ref b24), (.ref b24)])) rfl rfl (hb hby at_130)
    refine GoesW.step st27 ?_
    have E_b24_27 := E_b24_26.wr W27
    have F_b24_coder_27 := F_b24_coder_26.other W27 (Or.inl ne_b24_b25)
    have F_b24_value_27 := F_b24_value_26.other W27 (Or.inl ne_b24_b25)
    have z_27 : n0 ≤ h27.size := by rw [W27.size]; exact z_26
    have K_27 : Keep h0 h27 [] := K_26.wr W27 (Or.inr sz_b25)
    have N_27 := Fr.snoc X27 N_26 ge_b25
    have A_b25_27 : Ari Z h27 b25 .char (3) (updI (updI (fun _ => 0) (0) (nar .char c0)) (1) (nar .char c1)) := A27
    show GoesW p e below s _ _ _ T27 (mkF m 131 #[.val (.int p1), .val (.int p2), .val (.int p3), .val (.int (3 : Int32)), .val (.int c0), .val (.int c1), .val (.int c2), .val (.int c3), .unset, .unset] [(.ref b25), (.ref b24), (.ref b24)])
    refine GoesW.step (fun _ k => XS.dup X27.here hx rfl (hb hby at_131) rfl rfl k) ?_
    as_aux_lemma =>
      refine GoesW.step (fun _ k => XS.iconst X27.here hx rfl (hb hby at_132) k) ?_
      refine GoesW.step (fun _ k => XS.iload X27.here hx rfl (hb hby at_133) rfl k) ?_
      show GoesW p e below s _ _ _ T27 (mkF m 135 #[.val (.int p1), .val (.int p2), .val (.int p3), .val (.int (3 : Int32)), .val (.int c0), .val (.int c1), .val (.int c2), .val (.int c3), .unset, .unset] [(.int c2), (.int (2 : Int32)), (.ref b25), (.ref b25), (.ref b24), (.ref b24)])
      obtain ⟨T28, h28, X28, e28, W28, A28, st28⟩ := stoC X27 hx hZ e27 A_b25_27 (2) rfl (by decide) (g := (mkF m 135 #[.val (.int p1), .val (.int p2), .val (.int p3), .val (.int (3 : Int32)), .val (.int c0), .val (.int c1), .val (.int c2), .val (.int c3), .unset, .unset] [(.int c2), (.int (2 : Int32)), (.ref b25), (.ref b25), (.ref b24), (.ref b24)])) rfl rfl (hb hby at_135)
      refine GoesW.step st28 ?_
      have E_b24_28 := E_b24_27.wr W28
      have F_b24_coder_28 := F_b24_coder_27.other W28 (Or.inl ne_b24_b25)
      have F_b24_value_28 := F_b24_value_27.other W28 (Or.inl ne_b24_b25)
      have z_28 : n0 ≤ h28.size := by rw [W28.size]; exact z_27
      have K_28 : Keep h0 h28 [] := K_27.wr W28 (Or.inr sz_b25)
      have N_28 := Fr.snoc X28 N_27 ge_b25
      have A_b25_28 : Ari Z h28 b25 .char (3) (updI (updI (updI (fun _ => 0) (0) (nar .char c0)) (1) (nar .char c1)) (2) (nar .char c2)) := A28
      show GoesW p e below s _ _ _ T28 (mkF m 136 #[.val (.int p1), .val (.int p2), .val (.int p3), .val (.int (3 : Int32)), .val (.int c0), .val (.int c1), .val (.int c2), .val (.int c3), .unset, .unset] [(.ref b25), (.ref b24), (.ref b24)])
      have AC := A_b25_28.cast (g := (own_cs c0 c1 c2 c3)) (own_ch3 rc0 rc1 rc2 rc3)
      obtain ⟨v29, T29, h29, L29, X29, e29, Q29, st29⟩ := callXI X28 hx hZ (b := b24) (y := (⟨"java/lang/String", "<init>", "([C)V"⟩ : MethodName)) hown rfl (hw _ (List.mem_of_getElem? (i := 6) rfl)) (hw _ (List.mem_of_getElem? (i := 7) rfl)) (hw _ (List.mem_of_getElem? (i := 8) rfl)) (hw _ (List.mem_of_getElem? (i := 4) rfl)) (by decide) (W := 1) (argsL := [(.ref b25)]) (rest := [(.ref b24)]) (rm1n3 l Z a0 hw [] b24 b25 G1 (own_cs c0 c1 c2 c3) h28 n0 z_28 O2 P3 (OL.keep K_28 all0) O5 O6 O7 E_b24_28 F_b24_value_28 F_b24_coder_28 ge_b24 AC (own_csr rc0 rc1 rc2 rc3 3) (Ne.symm ne_b24_b25)) (by decide) (by decide) (by decide) (by decide) e28 (g := (mkF m 136 #[.val (.int p1), .val (.int p2), .val (.int p3), .val (.int (3 : Int32)), .val (.int c0), .val (.int c1), .val (.int c2), .val (.int c3), .unset, .unset] [(.ref b25), (.ref b24), (.ref b24)])) rfl (by rw [hml]; rfl) (lenOf pd_0_0 rfl) rfl (by show 2 * 0 + _ ≤ _; exact Nat.le_of_eq rfl) (hb hby at_136)
      obtain ⟨rfl, NQ29, KQ29, hT29⟩ := Q29
      refine GoesW.step st29 ?_
      have E_b24_29 := E_b24_28.keep KQ29
      have A_b25_29 := A_b25_28.keep KQ29 (ninS (Ne.symm ne_b24_b25) nin0)
      have z_29 : n0 ≤ h29.size := Nat.le_trans z_28 KQ29.1
      have K_29 : Keep h0 h29 [] := Keep.trans K_28 KQ29 (allS (Or.inr sz_b24) all0)
      have N_29 := Fr.app N_28 NQ29
      show GoesW p e below s _ _ _ T29 (mkF m 139 #[.val (.int p1), .val (.int p2), .val (.int p3), .val (.int (3 : Int32)), .val (.int c0), .val (.int c1), .val (.int c2), .val (.int c3), .unset, .unset] [(.ref b24)])
      refine GoesW.step (fun _ k => XS.astore X29.here hx rfl (hb hby at_139) rfl rfl (l' := #[.val (.int p1), .val (.int p2), .val (.int p3), .val (.int (3 : Int32)), .val (.int c0), .val (.int c1), .val (.int c2), .val (.int c3), .val (.ref b24), .unset]) rfl k) ?_
      refine GoesW.step (fun _ k => XS.goto X29.here hx rfl (pc0 := 141) (pc' := 176) rfl (hb hby at_141) (by decide) (by decide) k) ?_
      refine GoesW.step (fun _ k => XS.iconst X29.here hx rfl (hb hby at_176) k) ?_
      show GoesW p e below s _ _ _ T29 (mkF m 177 #[.val (.int p1), .val (.int p2), .val (.int p3), .val (.int (3 : Int32)), .val (.int c0), .val (.int c1), .val (.int c2), .val (.int c3), .val (.ref b24), .unset] [(.int (-1 : Int32))])
      refine GoesW.step (fun _ k => XS.istore X29.here hx rfl (hb hby at_177) rfl (l' := #[.val (.int p1), .val (.int p2), .val (.int p3), .val (.int (3 : Int32)), .val (.int c0), .val (.int c1), .val (.int c2), .val (.int c3), .val (.ref b24), .val (.int (-1 : Int32))]) rfl k) ?_
      refine GoesW.step (fun _ k => XS.iloadN X29.here hx rfl (hb hby at_179) rfl k) ?_
      refine GoesW.step (fun _ k => XS.iconst X29.here hx rfl (hb hby at_180) k) ?_
      show GoesW p e below s _ _ _ T29 (mkF m 181 #[.val (.int p1), .val (.int p2), .val (.int p3), .val (.int (3 : Int32)), .val (.int c0), .val (.int c1), .val (.int c2), .val (.int c3), .val (.ref b24), .val (.int (-1 : Int32))] [(.int (3 : Int32)), (.int (3 : Int32))])
      refine GoesW.step (fun _ k => XS.icmpYes X29.here hx rfl (pc0 := 181) (pc' := 195) rfl (hb hby at_181) rfl (flt (by decide : ¬ ((3 : Int32) < (3 : Int32)))).2.2.2 (by decide) (by decide) k) ?_
      show GoesW p e below s _ _ _ T29 (mkF m 195 #[.val (.int p1), .val (.int p2), .val (.int p3), .val (.int (3 : Int32)), .val (.int c0), .val (.int c1), .val (.int c2), .val (.int c3), .val (.ref b24), .val (.int (-1 : Int32))] [])
      refine GoesW.step (fun _ k => XS.iloadN X29.here hx rfl (hb hby at_195) rfl k) ?_
      refine GoesW.step (fun _ k => XS.iconst X29.here hx rfl (hb hby at_196) k) ?_
      refine GoesW.step (fun _ k => XS.icmpNo X29.here hx rfl (hb hby at_197) rfl (tlt (by decide : (2 : Int32) < (3 : Int32))).2.2.2 k) ?_
      show GoesW p e below s _ _ _ T29 (mkF m 200 #[.val (.int p1), .val (.int p2), .val (.int p3), .val (.int (3 : Int32)), .val (.int c0), .val (.int c1), .val (.int c2), .val (.int c3), .val (.ref b24), .val (.int (-1 : Int32))] [])
      refine GoesW.step (fun _ k => XS.iload X29.here hx rfl (hb hby at_200) rfl k) ?_
      obtain ⟨T30, X30, e30, st30⟩ := callPure X29 hx hZ (y := (⟨"com/example/cartouche/cartouche/ControlCharactersIndexInPinLaw", "ctrl", "(C)Z"⟩ : MethodName)) hown (hw _ (List.mem_of_getElem? (i := 32) rfl)) (hw _ (List.mem_of_getElem? (i := 33) rfl)) (hw _ (List.mem_of_getElem? (i := 34) rfl)) (hw _ (List.mem_of_getElem? (i := 35) rfl)) (by decide) (W := 0) (argsL := [(.int c2)]) (rest := []) (r := (.int (f7 c2))) (fun _ _ _ q => q) (rm7 l Z a0 hw [] c2 h29 ) (by decide) (by decide) (by decide) (by decide) e29 (g := (mkF m 202 #[.val (.int p1), .val (.int p2), .val (.int p3), .val (.int (3 : Int32)), .val (.int c0), .val (.int c1), .val (.int c2), .val (.int c3), .val (.ref b24), .val (.int (-1 : Int32))] [(.int c2)])) rfl (by rw [hml]; rfl) (lenOf pd_0_2 rfl) rfl (by show 2 * 0 + _ ≤ _; exact Nat.le_of_eq rfl) (hb hby at_202)
      refine GoesW.step st30 ?_
      show GoesW p e below s _ _ _ T30 (mkF m 205 #[.val (.int p1), .val (.int p2), .val (.int p3), .val (.int (3 : Int32)), .val (.int c0), .val (.int c1), .val (.int c2), .val (.int c3), .val (.ref b24), .val (.int (-1 : Int32))] [(.int (f7 c2))])
      by_cases hc205 : (f7 c2) = (0 : Int32)
      · refine GoesW.step (fun _ k => XS.ifYes X30.here hx rfl (pc0 := 205) (pc' := 211) rfl (hb hby at_205) rfl ((if0 _ _).trans (teq hc205).1) (by decide) (by decide) k) ?_
        show GoesW p e below s _ _ _ T30 (mkF m 211 #[.val (.int p1), .val (.int p2), .val (.int p3), .val (.int (3 : Int32)), .val (.int c0), .val (.int c1), .val (.int c2), .val (.int c3), .val (.ref b24), .val (.int (-1 : Int32))] [])
        refine GoesW.step (fun _ k => XS.iloadN X30.here hx rfl (hb hby at_211) rfl k) ?_
        refine GoesW.step (fun _ k => XS.iconst X30.here hx rfl (hb hby at_212) k) ?_
        refine GoesW.step (fun _ k => XS.icmpNo X30.here hx rfl (hb hby at_213) rfl (tlt (by decide : (1 : Int32) < (3 : Int32))).2.2.2 k) ?_
        show GoesW p e below s _ _ _ T30 (mkF m 216 #[.val (.int p1), .val (.int p2), .val (.int p3), .val (.int (3 : Int32)), .val (.int c0), .val (.int c1), .val (.int c2), .val (.int c3), .val (.ref b24), .val (.int (-1 : Int32))] [])
        refine GoesW.step (fun _ k => XS.iload X30.here hx rfl (hb hby at_216) rfl k) ?_
        obtain ⟨T31, X31, e31, st31⟩ := callPure X30 hx hZ (y := (⟨"com/example/cartouche/cartouche/ControlCharactersIndexInPinLaw", "ctrl", "(C)Z"⟩ : MethodName)) hown (hw _ (List.mem_of_getElem? (i := 32) rfl)) (hw _ (List.mem_of_getElem? (i := 33) rfl)) (hw _ (List.mem_of_getElem? (i := 34) rfl)) (hw _ (List.mem_of_getElem? (i := 35) rfl)) (by decide) (W := 0) (argsL := [(.int c1)]) (rest := []) (r := (.int (f7 c1))) (fun _ _ _ q => q) (rm7 l Z a0 hw [] c1 h29 ) (by decide) (by decide) (by decide) (by decide) e30 (g := (mkF m 218 #[.val (.int p1), .val (.int p2), .val (.int p3), .val (.int (3 : Int32)), .val (.int c0), .val (.int c1), .val (.int c2), .val (.int c3), .val (.ref b24), .val (.int (-1 : Int32))] [(.int c1)])) rfl (by rw [hml]; rfl) (lenOf pd_0_2 rfl) rfl (by show 2 * 0 + _ ≤ _; exact Nat.le_of_eq rfl) (hb hby at_218)
        refine GoesW.step st31 ?_
        show GoesW p e below s _ _ _ T31 (mkF m 221 #[.val (.int p1), .val (.int p2), .val (.int p3), .val (.int (3 : Int32)), .val (.int c0), .val (.int c1), .val (.int c2), .val (.int c3), .val (.ref b24), .val (.int (-1 : Int32))] [(.int (f7 c1))])
        by_cases hc221 : (f7 c1) = (0 : Int32)
        · refine GoesW.step (fun _ k => XS.ifYes X31.here hx rfl (pc0 := 221) (pc' := 227) rfl (hb hby at_221) rfl ((if0 _ _).trans (teq hc221).1) (by decide) (by decide) k) ?_
          show GoesW p e below s _ _ _ T31 (mkF m 227 #[.val (.int p1), .val (.int p2), .val (.int p3), .val (.int (3 : Int32)), .val (.int c0), .val (.int c1), .val (.int c2), .val (.int c3), .val (.ref b24), .val (.int (-1 : Int32))] [])
          refine GoesW.step (fun _ k => XS.iloadN X31.here hx rfl (hb hby at_227) rfl k) ?_
          refine GoesW.step (fun _ k => XS.ifNo X31.here hx rfl (hb hby at_228) rfl ((if0 _ _).trans (tlt (by decide : (0 : Int32) < (3 : Int32))).2.2.2) k) ?_
          show GoesW p e below s _ _ _ T31 (mkF m 231 #[.val (.int p1), .val (.int p2), .val (.int p3), .val (.int (3 : Int32)), .val (.int c0), .val (.int c1), .val (.int c2), .val (.int c3), .val (.ref b24), .val (.int (-1 : Int32))] [])
          refine GoesW.step (fun _ k => XS.iload X31.here hx rfl (hb hby at_231) rfl k) ?_
          obtain ⟨T32, X32, e32, st32⟩ := callPure X31 hx hZ (y := (⟨"com/example/cartouche/cartouche/ControlCharactersIndexInPinLaw", "ctrl", "(C)Z"⟩ : MethodName)) hown (hw _ (List.mem_of_getElem? (i := 32) rfl)) (hw _ (List.mem_of_getElem? (i := 33) rfl)) (hw _ (List.mem_of_getElem? (i := 34) rfl)) (hw _ (List.mem_of_getElem? (i := 35) rfl)) (by decide) (W := 0) (argsL := [(.int c0)]) (rest := []) (r := (.int (f7 c0))) (fun _ _ _ q => q) (rm7 l Z a0 hw [] c0 h29 ) (by decide) (by decide) (by decide) (by decide) e31 (g := (mkF m 233 #[.val (.int p1), .val (.int p2), .val (.int p3), .val (.int (3 : Int32)), .val (.int c0), .val (.int c1), .val (.int c2), .val (.int c3), .val (.ref b24), .val (.int (-1 : Int32))] [(.int c0)])) rfl (by rw [hml]; rfl) (lenOf pd_0_2 rfl) rfl (by show 2 * 0 + _ ≤ _; exact Nat.le_of_eq rfl) (hb hby at_233)
          refine GoesW.step st32 ?_
          show GoesW p e below s _ _ _ T32 (mkF m 236 #[.val (.int p1), .val (.int p2), .val (.int p3), .val (.int (3 : Int32)), .val (.int c0), .val (.int c1), .val (.int c2), .val (.int c3), .val (.ref b24), .val (.int (-1 : Int32))] [(.int (f7 c0))])
          by_cases hc236 : (f7 c0) = (0 : Int32)
          · refine GoesW.step (fun _ k => XS.ifYes X32.here hx rfl (pc0 := 236) (pc' := 242) rfl (hb hby at_236) rfl ((if0 _ _).trans (teq hc236).1) (by decide) (by decide) k) ?_
            show GoesW p e below s _ _ _ T32 (mkF m 242 #[.val (.int p1), .val (.int p2), .val (.int p3), .val (.int (3 : Int32)), .val (.int c0), .val (.int c1), .val (.int c2), .val (.int c3), .val (.ref b24), .val (.int (-1 : Int32))] [])
            refine GoesW.step (fun _ k => XS.aload X32.here hx rfl (hb hby at_242) rfl rfl k) ?_
            obtain ⟨T33, X33, e33, st33⟩ := own_pure (r := some (.int (own_ix (fun i => f16 ((own_cs c0 c1 c2 c3) i)) 3 0))) (fun _ _ _ q => q) (callX X32 hx hZ (y := (⟨"com/example/cartouche/cartouche/ControlCharacters", "indexIn", "(Ljava/lang/String;)I"⟩ : MethodName)) hown (hw _ (List.mem_of_getElem? (i := 36) rfl)) (hw _ (List.mem_of_getElem? (i := 37) rfl)) (hw _ (List.mem_of_getElem? (i := 38) rfl)) (hw _ (List.mem_of_getElem? (i := 39) rfl)) (by decide) (W := 0) (argsL := [(.ref b24)]) (rest := []) (rm8n3 l Z a0 hw [] b24 G1 oF (own_cs c0 c1 c2 c3) h29 n0 z_29 O2 P3 (OL.keep K_29 all0) O4 O5 O6 O7 hT29) (by decide) (by decide) (by decide) (by decide) e32 (g := (mkF m 244 #[.val (.int p1), .val (.int p2), .val (.int p3), .val (.int (3 : Int32)), .val (.int c0), .val (.int c1), .val (.int c2), .val (.int c3), .val (.ref b24), .val (.int (-1 : Int32))] [(.ref b24)])) rfl (by rw [hml]; rfl) (lenOf pd_0_1 rfl) rfl (by show 2 * 0 + _ ≤ _; exact Nat.le_of_eq rfl) (hb hby at_244))
            refine GoesW.step st33 ?_
            show GoesW p e below s _ _ _ T33 (mkF m 247 #[.val (.int p1), .val (.int p2), .val (.int p3), .val (.int (3 : Int32)), .val (.int c0), .val (.int c1), .val (.int c2), .val (.int c3), .val (.ref b24), .val (.int (-1 : Int32))] [(.int (own_ix (fun i => f16 ((own_cs c0 c1 c2 c3) i)) 3 0))])
            refine GoesW.step (fun _ k => XS.iload X33.here hx rfl (hb hby at_247) rfl k) ?_
            refine GoesW.step (fun _ k => XS.icmpNo X33.here hx rfl (hb hby at_249) rfl (teq (by rw [own_x3]; simp [own_cs, own_same, hc205, hc221, hc236])).2 k) ?_
            show GoesW p e below s _ _ _ T33 (mkF m 252 #[.val (.int p1), .val (.int p2), .val (.int p3), .val (.int (3 : Int32)), .val (.int c0), .val (.int c1), .val (.int c2), .val (.int c3), .val (.ref b24), .val (.int (-1 : Int32))] [])
            refine GoesW.step (fun _ k => XS.iconst X33.here hx rfl (hb hby at_252) k) ?_
            refine GoesW.step (fun _ k => XS.goto X33.here hx rfl (pc0 := 253) (pc' := 257) rfl (hb hby at_253) (by decide) (by decide) k) ?_
            show GoesW p e below s _ _ _ T33 (mkF m 257 #[.val (.int p1), .val (.int p2), .val (.int p3), .val (.int (3 : Int32)), .val (.int c0), .val (.int c1), .val (.int c2), .val (.int c3), .val (.ref b24), .val (.int (-1 : Int32))] [(.int (1 : Int32))])
            exact GoesW.outN (s := s) (vm₁ := s.vm) X33 ((State.WarmedH.refl s).since 0) (Nat.zero_le _) hx hlk (t := .boolean) Bd.returns (by simp) (hb hby at_257) ⟨rfl, N_29⟩ (by decide) (by decide)
          · refine GoesW.step (fun _ k => XS.ifNo X32.here hx rfl (hb hby at_236) rfl ((if0 _ _).trans (feq hc236).1) k) ?_
            show GoesW p e below s _ _ _ T32 (mkF m 239 #[.val (.int p1), .val (.int p2), .val (.int p3), .val (.int (3 : Int32)), .val (.int c0), .val (.int c1), .val (.int c2), .val (.int c3), .val (.ref b24), .val (.int (-1 : Int32))] [])
            refine GoesW.step (fun _ k => XS.iconst X32.here hx rfl (hb hby at_239) k) ?_
            refine GoesW.step (fun _ k => XS.istore X32.here hx rfl (hb hby at_240) rfl (l' := #[.val (.int p1), .val (.int p2), .val (.int p3), .val (.int (3 : Int32)), .val (.int c0), .val (.int c1), .val (.int c2), .val (.int c3), .val (.ref b24), .val (.int (0 : Int32))]) rfl k) ?_
            refine GoesW.step (fun _ k => XS.aload X32.here hx rfl (hb hby at_242) rfl rfl k) ?_
            show GoesW p e below s _ _ _ T32 (mkF m 244 #[.val (.int p1), .val (.int p2), .val (.int p3), .val (.int (3 : Int32)), .val (.int c0), .val (.int c1), .val (.int c2), .val (.int c3), .val (.ref b24), .val (.int (0 : Int32))] [(.ref b24)])
            obtain ⟨T34, X34, e34, st34⟩ := own_pure (r := some (.int (own_ix (fun i => f16 ((own_cs c0 c1 c2 c3) i)) 3 0))) (fun _ _ _ q => q) (callX X32 hx hZ (y := (⟨"com/example/cartouche/cartouche/ControlCharacters", "indexIn", "(Ljava/lang/String;)I"⟩ : MethodName)) hown (hw _ (List.mem_of_getElem? (i := 36) rfl)) (hw _ (List.mem_of_getElem? (i := 37) rfl)) (hw _ (List.mem_of_getElem? (i := 38) rfl)) (hw _ (List.mem_of_getElem? (i := 39) rfl)) (by decide) (W := 0) (argsL := [(.ref b24)]) (rest := []) (rm8n3 l Z a0 hw [] b24 G1 oF (own_cs c0 c1 c2 c3) h29 n0 z_29 O2 P3 (OL.keep K_29 all0) O4 O5 O6 O7 hT29) (by decide) (by decide) (by decide) (by decide) e32 (g := (mkF m 244 #[.val (.int p1), .val (.int p2), .val (.int p3), .val (.int (3 : Int32)), .val (.int c0), .val (.int c1), .val (.int c2), .val (.int c3), .val (.ref b24), .val (.int (0 : Int32))] [(.ref b24)])) rfl (by rw [hml]; rfl) (lenOf pd_0_1 rfl) rfl (by show 2 * 0 + _ ≤ _; exact Nat.le_of_eq rfl) (hb hby at_244))
            refine GoesW.step st34 ?_
            show GoesW p e below s _ _ _ T34 (mkF m 247 #[.val (.int p1), .val (.int p2), .val (.int p3), .val (.int (3 : Int32)), .val (.int c0), .val (.int c1), .val (.int c2), .val (.int c3), .val (.ref b24), .val (.int (0 : Int32))] [(.int (own_ix (fun i => f16 ((own_cs c0 c1 c2 c3) i)) 3 0))])
            refine GoesW.step (fun _ k => XS.iload X34.here hx rfl (hb hby at_247) rfl k) ?_
            refine GoesW.step (fun _ k => XS.icmpNo X34.here hx rfl (hb hby at_249) rfl (teq (by rw [own_x3]; simp [own_cs, own_same, hc205, hc221, hc236])).2 k) ?_
            show GoesW p e below s _ _ _ T34 (mkF m 252 #[.val (.int p1), .val (.int p2), .val (.int p3), .val (.int (3 : Int32)), .val (.int c0), .val (.int c1), .val (.int c2), .val (.int c3), .val (.ref b24), .val (.int (0 : Int32))] [])
            refine GoesW.step (fun _ k => XS.iconst X34.here hx rfl (hb hby at_252) k) ?_
            refine GoesW.step (fun _ k => XS.goto X34.here hx rfl (pc0 := 253) (pc' := 257) rfl (hb hby at_253) (by decide) (by decide) k) ?_
            show GoesW p e below s _ _ _ T34 (mkF m 257 #[.val (.int p1), .val (.int p2), .val (.int p3), .val (.int (3 : Int32)), .val (.int c0), .val (.int c1), .val (.int c2), .val (.int c3), .val (.ref b24), .val (.int (0 : Int32))] [(.int (1 : Int32))])
            exact GoesW.outN (s := s) (vm₁ := s.vm) X34 ((State.WarmedH.refl s).since 0) (Nat.zero_le _) hx hlk (t := .boolean) Bd.returns (by simp) (hb hby at_257) ⟨rfl, N_29⟩ (by decide) (by decide)
        · refine GoesW.step (fun _ k => XS.ifNo X31.here hx rfl (hb hby at_221) rfl ((if0 _ _).trans (feq hc221).1) k) ?_
          show GoesW p e below s _ _ _ T31 (mkF m 224 #[.val (.int p1), .val (.int p2), .val (.int p3), .val (.int (3 : Int32)), .val (.int c0), .val (.int c1), .val (.int c2), .val (.int c3), .val (.ref b24), .val (.int (-1 : Int32))] [])
          refine GoesW.step (fun _ k => XS.iconst X31.here hx rfl (hb hby at_224) k) ?_
          refine GoesW.step (fun _ k => XS.istore X31.here hx rfl (hb hby at_225) rfl (l' := #[.val (.int p1), .val (.int p2), .val (.int p3), .val (.int (3 : Int32)), .val (.int c0), .val (.int c1), .val (.int c2), .val (.int c3), .val (.ref b24), .val (.int (1 : Int32))]) rfl k) ?_
          refine GoesW.step (fun _ k => XS.iloadN X31.here hx rfl (hb hby at_227) rfl k) ?_
          show GoesW p e below s _ _ _ T31 (mkF m 228 #[.val (.int p1), .val (.int p2), .val (.int p3), .val (.int (3 : Int32)), .val (.int c0), .val (.int c1), .val (.int c2), .val (.int c3), .val (.ref b24), .val (.int (1 : Int32))] [(.int (3 : Int32))])
          refine GoesW.step (fun _ k => XS.ifNo X31.here hx rfl (hb hby at_228) rfl ((if0 _ _).trans (tlt (by decide : (0 : Int32) < (3 : Int32))).2.2.2) k) ?_
          show GoesW p e below s _ _ _ T31 (mkF m 231 #[.val (.int p1), .val (.int p2), .val (.int p3), .val (.int (3 : Int32)), .val (.int c0), .val (.int c1), .val (.int c2), .val (.int c3), .val (.ref b24), .val (.int (1 : Int32))] [])
          refine GoesW.step (fun _ k => XS.iload X31.here hx rfl (hb hby at_231) rfl k) ?_
          obtain ⟨T35, X35, e35, st35⟩ := callPure X31 hx hZ (y := (⟨"com/example/cartouche/cartouche/ControlCharactersIndexInPinLaw", "ctrl", "(C)Z"⟩ : MethodName)) hown (hw _ (List.mem_of_getElem? (i := 32) rfl)) (hw _ (List.mem_of_getElem? (i := 33) rfl)) (hw _ (List.mem_of_getElem? (i := 34) rfl)) (hw _ (List.mem_of_getElem? (i := 35) rfl)) (by decide) (W := 0) (argsL := [(.int c0)]) (rest := []) (r := (.int (f7 c0))) (fun _ _ _ q => q) (rm7 l Z a0 hw [] c0 h29 ) (by decide) (by decide) (by decide) (by decide) e31 (g := (mkF m 233 #[.val (.int p1), .val (.int p2), .val (.int p3), .val (.int (3 : Int32)), .val (.int c0), .val (.int c1), .val (.int c2), .val (.int c3), .val (.ref b24), .val (.int (1 : Int32))] [(.int c0)])) rfl (by rw [hml]; rfl) (lenOf pd_0_2 rfl) rfl (by show 2 * 0 + _ ≤ _; exact Nat.le_of_eq rfl) (hb hby at_233)
          refine GoesW.step st35 ?_
          show GoesW p e below s _ _ _ T35 (mkF m 236 #[.val (.int p1), .val (.int p2), .val (.int p3), .val (.int (3 : Int32)), .val (.int c0), .val (.int c1), .val (.int c2), .val (.int c3), .val (.ref b24), .val (.int (1 : Int32))] [(.int (f7 c0))])
          by_cases hc236 : (f7 c0) = (0 : Int32)
          · refine GoesW.step (fun _ k => XS.ifYes X35.here hx rfl (pc0 := 236) (pc' := 242) rfl (hb hby at_236) rfl ((if0 _ _).trans (teq hc236).1) (by decide) (by decide) k) ?_
            show GoesW p e below s _ _ _ T35 (mkF m 242 #[.val (.int p1), .val (.int p2), .val (.int p3), .val (.int (3 : Int32)), .val (.int c0), .val (.int c1), .val (.int c2), .val (.int c3), .val (.ref b24), .val (.int (1 : Int32))] [])
            refine GoesW.step (fun _ k => XS.aload X35.here hx rfl (hb hby at_242) rfl rfl k) ?_
            obtain ⟨T36, X36, e36, st36⟩ := own_pure (r := some (.int (own_ix (fun i => f16 ((own_cs c0 c1 c2 c3) i)) 3 0))) (fun _ _ _ q => q) (callX X35 hx hZ (y := (⟨"com/example/cartouche/cartouche/ControlCharacters", "indexIn", "(Ljava/lang/String;)I"⟩ : MethodName)) hown (hw _ (List.mem_of_getElem? (i := 36) rfl)) (hw _ (List.mem_of_getElem? (i := 37) rfl)) (hw _ (List.mem_of_getElem? (i := 38) rfl)) (hw _ (List.mem_of_getElem? (i := 39) rfl)) (by decide) (W := 0) (argsL := [(.ref b24)]) (rest := []) (rm8n3 l Z a0 hw [] b24 G1 oF (own_cs c0 c1 c2 c3) h29 n0 z_29 O2 P3 (OL.keep K_29 all0) O4 O5 O6 O7 hT29) (by decide) (by decide) (by decide) (by decide) e35 (g := (mkF m 244 #[.val (.int p1), .val (.int p2), .val (.int p3), .val (.int (3 : Int32)), .val (.int c0), .val (.int c1), .val (.int c2), .val (.int c3), .val (.ref b24), .val (.int (1 : Int32))] [(.ref b24)])) rfl (by rw [hml]; rfl) (lenOf pd_0_1 rfl) rfl (by show 2 * 0 + _ ≤ _; exact Nat.le_of_eq rfl) (hb hby at_244))
            refine GoesW.step st36 ?_
            show GoesW p e below s _ _ _ T36 (mkF m 247 #[.val (.int p1), .val (.int p2), .val (.int p3), .val (.int (3 : Int32)), .val (.int c0), .val (.int c1), .val (.int c2), .val (.int c3), .val (.ref b24), .val (.int (1 : Int32))] [(.int (own_ix (fun i => f16 ((own_cs c0 c1 c2 c3) i)) 3 0))])
            refine GoesW.step (fun _ k => XS.iload X36.here hx rfl (hb hby at_247) rfl k) ?_
            refine GoesW.step (fun _ k => XS.icmpNo X36.here hx rfl (hb hby at_249) rfl (teq (by rw [own_x3]; simp [own_cs, own_same, hc205, hc221, hc236])).2 k) ?_
            show GoesW p e below s _ _ _ T36 (mkF m 252 #[.val (.int p1), .val (.int p2), .val (.int p3), .val (.int (3 : Int32)), .val (.int c0), .val (.int c1), .val (.int c2), .val (.int c3), .val (.ref b24), .val (.int (1 : Int32))] [])
            refine GoesW.step (fun _ k => XS.iconst X36.here hx rfl (hb hby at_252) k) ?_
            refine GoesW.step (fun _ k => XS.goto X36.here hx rfl (pc0 := 253) (pc' := 257) rfl (hb hby at_253) (by decide) (by decide) k) ?_
            show GoesW p e below s _ _ _ T36 (mkF m 257 #[.val (.int p1), .val (.int p2), .val (.int p3), .val (.int (3 : Int32)), .val (.int c0), .val (.int c1), .val (.int c2), .val (.int c3), .val (.ref b24), .val (.int (1 : Int32))] [(.int (1 : Int32))])
            exact GoesW.outN (s := s) (vm₁ := s.vm) X36 ((State.WarmedH.refl s).since 0) (Nat.zero_le _) hx hlk (t := .boolean) Bd.returns (by simp) (hb hby at_257) ⟨rfl, N_29⟩ (by decide) (by decide)
          · refine GoesW.step (fun _ k => XS.ifNo X35.here hx rfl (hb hby at_236) rfl ((if0 _ _).trans (feq hc236).1) k) ?_
            show GoesW p e below s _ _ _ T35 (mkF m 239 #[.val (.int p1), .val (.int p2), .val (.int p3), .val (.int (3 : Int32)), .val (.int c0), .val (.int c1), .val (.int c2), .val (.int c3), .val (.ref b24), .val (.int (1 : Int32))] [])
            refine GoesW.step (fun _ k => XS.iconst X35.here hx rfl (hb hby at_239) k) ?_
            refine GoesW.step (fun _ k => XS.istore X35.here hx rfl (hb hby at_240) rfl (l' := #[.val (.int p1), .val (.int p2), .val (.int p3), .val (.int (3 : Int32)), .val (.int c0), .val (.int c1), .val (.int c2), .val (.int c3), .val (.ref b24), .val (.int (0 : Int32))]) rfl k) ?_
            refine GoesW.step (fun _ k => XS.aload X35.here hx rfl (hb hby at_242) rfl rfl k) ?_
            show GoesW p e below s _ _ _ T35 (mkF m 244 #[.val (.int p1), .val (.int p2), .val (.int p3), .val (.int (3 : Int32)), .val (.int c0), .val (.int c1), .val (.int c2), .val (.int c3), .val (.ref b24), .val (.int (0 : Int32))] [(.ref b24)])
            obtain ⟨T37, X37, e37, st37⟩ := own_pure (r := some (.int (own_ix (fun i => f16 ((own_cs c0 c1 c2 c3) i)) 3 0))) (fun _ _ _ q => q) (callX X35 hx hZ (y := (⟨"com/example/cartouche/cartouche/ControlCharacters", "indexIn", "(Ljava/lang/String;)I"⟩ : MethodName)) hown (hw _ (List.mem_of_getElem? (i := 36) rfl)) (hw _ (List.mem_of_getElem? (i := 37) rfl)) (hw _ (List.mem_of_getElem? (i := 38) rfl)) (hw _ (List.mem_of_getElem? (i := 39) rfl)) (by decide) (W := 0) (argsL := [(.ref b24)]) (rest := []) (rm8n3 l Z a0 hw [] b24 G1 oF (own_cs c0 c1 c2 c3) h29 n0 z_29 O2 P3 (OL.keep K_29 all0) O4 O5 O6 O7 hT29) (by decide) (by decide) (by decide) (by decide) e35 (g := (mkF m 244 #[.val (.int p1), .val (.int p2), .val (.int p3), .val (.int (3 : Int32)), .val (.int c0), .val (.int c1), .val (.int c2), .val (.int c3), .val (.ref b24), .val (.int (0 : Int32))] [(.ref b24)])) rfl (by rw [hml]; rfl) (lenOf pd_0_1 rfl) rfl (by show 2 * 0 + _ ≤ _; exact Nat.le_of_eq rfl) (hb hby at_244))
            refine GoesW.step st37 ?_
            show GoesW p e below s _ _ _ T37 (mkF m 247 #[.val (.int p1), .val (.int p2), .val (.int p3), .val (.int (3 : Int32)), .val (.int c0), .val (.int c1), .val (.int c2), .val (.int c3), .val (.ref b24), .val (.int (0 : Int32))] [(.int (own_ix (fun i => f16 ((own_cs c0 c1 c2 c3) i)) 3 0))])
            refine GoesW.step (fun _ k => XS.iload X37.here hx rfl (hb hby at_247) rfl k) ?_
            refine GoesW.step (fun _ k => XS.icmpNo X37.here hx rfl (hb hby at_249) rfl (teq (by rw [own_x3]; simp [own_cs, own_same, hc205, hc221, hc236])).2 k) ?_
            show GoesW p e below s _ _ _ T37 (mkF m 252 #[.val (.int p1), .val (.int p2), .val (.int p3), .val (.int (3 : Int32)), .val (.int c0), .val (.int c1), .val (.int c2), .val (.int c3), .val (.ref b24), .val (.int (0 : Int32))] [])
            refine GoesW.step (fun _ k => XS.iconst X37.here hx rfl (hb hby at_252) k) ?_
            refine GoesW.step (fun _ k => XS.goto X37.here hx rfl (pc0 := 253) (pc' := 257) rfl (hb hby at_253) (by decide) (by decide) k) ?_
            show GoesW p e below s _ _ _ T37 (mkF m 257 #[.val (.int p1), .val (.int p2), .val (.int p3), .val (.int (3 : Int32)), .val (.int c0), .val (.int c1), .val (.int c2), .val (.int c3), .val (.ref b24), .val (.int (0 : Int32))] [(.int (1 : Int32))])
            exact GoesW.outN (s := s) (vm₁ := s.vm) X37 ((State.WarmedH.refl s).since 0) (Nat.zero_le _) hx hlk (t := .boolean) Bd.returns (by simp) (hb hby at_257) ⟨rfl, N_29⟩ (by decide) (by decide)
      · refine GoesW.step (fun _ k => XS.ifNo X30.here hx rfl (hb hby at_205) rfl ((if0 _ _).trans (feq hc205).1) k) ?_
        show GoesW p e below s _ _ _ T30 (mkF m 208 #[.val (.int p1), .val (.int p2), .val (.int p3), .val (.int (3 : Int32)), .val (.int c0), .val (.int c1), .val (.int c2), .val (.int c3), .val (.ref b24), .val (.int (-1 : Int32))] [])
        refine GoesW.step (fun _ k => XS.iconst X30.here hx rfl (hb hby at_208) k) ?_
        refine GoesW.step (fun _ k => XS.istore X30.here hx rfl (hb hby at_209) rfl (l' := #[.val (.int p1), .val (.int p2), .val (.int p3), .val (.int (3 : Int32)), .val (.int c0), .val (.int c1), .val (.int c2), .val (.int c3), .val (.ref b24), .val (.int (2 : Int32))]) rfl k) ?_
        refine GoesW.step (fun _ k => XS.iloadN X30.here hx rfl (hb hby at_211) rfl k) ?_
        show GoesW p e below s _ _ _ T30 (mkF m 212 #[.val (.int p1), .val (.int p2), .val (.int p3), .val (.int (3 : Int32)), .val (.int c0), .val (.int c1), .val (.int c2), .val (.int c3), .val (.ref b24), .val (.int (2 : Int32))] [(.int (3 : Int32))])
        refine GoesW.step (fun _ k => XS.iconst X30.here hx rfl (hb hby at_212) k) ?_
        refine GoesW.step (fun _ k => XS.icmpNo X30.here hx rfl (hb hby at_213) rfl (tlt (by decide : (1 : Int32) < (3 : Int32))).2.2.2 k) ?_
        show GoesW p e below s _ _ _ T30 (mkF m 216 #[.val (.int p1), .val (.int p2), .val (.int p3), .val (.int (3 : Int32)), .val (.int c0), .val (.int c1), .val (.int c2), .val (.int c3), .val (.ref b24), .val (.int (2 : Int32))] [])
        refine GoesW.step (fun _ k => XS.iload X30.here hx rfl (hb hby at_216) rfl k) ?_
        obtain ⟨T38, X38, e38, st38⟩ := callPure X30 hx hZ (y := (⟨"com/example/cartouche/cartouche/ControlCharactersIndexInPinLaw", "ctrl", "(C)Z"⟩ : MethodName)) hown (hw _ (List.mem_of_getElem? (i := 32) rfl)) (hw _ (List.mem_of_getElem? (i := 33) rfl)) (hw _ (List.mem_of_getElem? (i := 34) rfl)) (hw _ (List.mem_of_getElem? (i := 35) rfl)) (by decide) (W := 0) (argsL := [(.int c1)]) (rest := []) (r := (.int (f7 c1))) (fun _ _ _ q => q) (rm7 l Z a0 hw [] c1 h29 ) (by decide) (by decide) (by decide) (by decide) e30 (g := (mkF m 218 #[.val (.int p1), .val (.int p2), .val (.int p3), .val (.int (3 : Int32)), .val (.int c0), .val (.int c1), .val (.int c2), .val (.int c3), .val (.ref b24), .val (.int (2 : Int32))] [(.int c1)])) rfl (by rw [hml]; rfl) (lenOf pd_0_2 rfl) rfl (by show 2 * 0 + _ ≤ _; exact Nat.le_of_eq rfl) (hb hby at_218)
        refine GoesW.step st38 ?_
        show GoesW p e below s _ _ _ T38 (mkF m 221 #[.val (.int p1), .val (.int p2), .val (.int p3), .val (.int (3 : Int32)), .val (.int c0), .val (.int c1), .val (.int c2), .val (.int c3), .val (.ref b24), .val (.int (2 : Int32))] [(.int (f7 c1))])
        by_cases hc221 : (f7 c1) = (0 : Int32)
        · refine GoesW.step (fun _ k => XS.ifYes X38.here hx rfl (pc0 := 221) (pc' := 227) rfl (hb hby at_221) rfl ((if0 _ _).trans (teq hc221).1) (by decide) (by decide) k) ?_
          show GoesW p e below s _ _ _ T38 (mkF m 227 #[.val (.int p1), .val (.int p2), .val (.int p3), .val (.int (3 : Int32)), .val (.int c0), .val (.int c1), .val (.int c2), .val (.int c3), .val (.ref b24), .val (.int (2 : Int32))] [])
          refine GoesW.step (fun _ k => XS.iloadN X38.here hx rfl (hb hby at_227) rfl k) ?_
          refine GoesW.step (fun _ k => XS.ifNo X38.here hx rfl (hb hby at_228) rfl ((if0 _ _).trans (tlt (by decide : (0 : Int32) < (3 : Int32))).2.2.2) k) ?_
          show GoesW p e below s _ _ _ T38 (mkF m 231 #[.val (.int p1), .val (.int p2), .val (.int p3), .val (.int (3 : Int32)), .val (.int c0), .val (.int c1), .val (.int c2), .val (.int c3), .val (.ref b24), .val (.int (2 : Int32))] [])
          refine GoesW.step (fun _ k => XS.iload X38.here hx rfl (hb hby at_231) rfl k) ?_
          obtain ⟨T39, X39, e39, st39⟩ := callPure X38 hx hZ (y := (⟨"com/example/cartouche/cartouche/ControlCharactersIndexInPinLaw", "ctrl", "(C)Z"⟩ : MethodName)) hown (hw _ (List.mem_of_getElem? (i := 32) rfl)) (hw _ (List.mem_of_getElem? (i := 33) rfl)) (hw _ (List.mem_of_getElem? (i := 34) rfl)) (hw _ (List.mem_of_getElem? (i := 35) rfl)) (by decide) (W := 0) (argsL := [(.int c0)]) (rest := []) (r := (.int (f7 c0))) (fun _ _ _ q => q) (rm7 l Z a0 hw [] c0 h29 ) (by decide) (by decide) (by decide) (by decide) e38 (g := (mkF m 233 #[.val (.int p1), .val (.int p2), .val (.int p3), .val (.int (3 : Int32)), .val (.int c0), .val (.int c1), .val (.int c2), .val (.int c3), .val (.ref b24), .val (.int (2 : Int32))] [(.int c0)])) rfl (by rw [hml]; rfl) (lenOf pd_0_2 rfl) rfl (by show 2 * 0 + _ ≤ _; exact Nat.le_of_eq rfl) (hb hby at_233)
          refine GoesW.step st39 ?_
          show GoesW p e below s _ _ _ T39 (mkF m 236 #[.val (.int p1), .val (.int p2), .val (.int p3), .val (.int (3 : Int32)), .val (.int c0), .val (.int c1), .val (.int c2), .val (.int c3), .val (.ref b24), .val (.int (2 : Int32))] [(.int (f7 c0))])
          by_cases hc236 : (f7 c0) = (0 : Int32)
          · refine GoesW.step (fun _ k => XS.ifYes X39.here hx rfl (pc0 := 236) (pc' := 242) rfl (hb hby at_236) rfl ((if0 _ _).trans (teq hc236).1) (by decide) (by decide) k) ?_
            show GoesW p e below s _ _ _ T39 (mkF m 242 #[.val (.int p1), .val (.int p2), .val (.int p3), .val (.int (3 : Int32)), .val (.int c0), .val (.int c1), .val (.int c2), .val (.int c3), .val (.ref b24), .val (.int (2 : Int32))] [])
            refine GoesW.step (fun _ k => XS.aload X39.here hx rfl (hb hby at_242) rfl rfl k) ?_
            obtain ⟨T40, X40, e40, st40⟩ := own_pure (r := some (.int (own_ix (fun i => f16 ((own_cs c0 c1 c2 c3) i)) 3 0))) (fun _ _ _ q => q) (callX X39 hx hZ (y := (⟨"com/example/cartouche/cartouche/ControlCharacters", "indexIn", "(Ljava/lang/String;)I"⟩ : MethodName)) hown (hw _ (List.mem_of_getElem? (i := 36) rfl)) (hw _ (List.mem_of_getElem? (i := 37) rfl)) (hw _ (List.mem_of_getElem? (i := 38) rfl)) (hw _ (List.mem_of_getElem? (i := 39) rfl)) (by decide) (W := 0) (argsL := [(.ref b24)]) (rest := []) (rm8n3 l Z a0 hw [] b24 G1 oF (own_cs c0 c1 c2 c3) h29 n0 z_29 O2 P3 (OL.keep K_29 all0) O4 O5 O6 O7 hT29) (by decide) (by decide) (by decide) (by decide) e39 (g := (mkF m 244 #[.val (.int p1), .val (.int p2), .val (.int p3), .val (.int (3 : Int32)), .val (.int c0), .val (.int c1), .val (.int c2), .val (.int c3), .val (.ref b24), .val (.int (2 : Int32))] [(.ref b24)])) rfl (by rw [hml]; rfl) (lenOf pd_0_1 rfl) rfl (by show 2 * 0 + _ ≤ _; exact Nat.le_of_eq rfl) (hb hby at_244))
            refine GoesW.step st40 ?_
            show GoesW p e below s _ _ _ T40 (mkF m 247 #[.val (.int p1), .val (.int p2), .val (.int p3), .val (.int (3 : Int32)), .val (.int c0), .val (.int c1), .val (.int c2), .val (.int c3), .val (.ref b24), .val (.int (2 : Int32))] [(.int (own_ix (fun i => f16 ((own_cs c0 c1 c2 c3) i)) 3 0))])
            refine GoesW.step (fun _ k => XS.iload X40.here hx rfl (hb hby at_247) rfl k) ?_
            refine GoesW.step (fun _ k => XS.icmpNo X40.here hx rfl (hb hby at_249) rfl (teq (by rw [own_x3]; simp [own_cs, own_same, hc205, hc221, hc236])).2 k) ?_
            show GoesW p e below s _ _ _ T40 (mkF m 252 #[.val (.int p1), .val (.int p2), .val (.int p3), .val (.int (3 : Int32)), .val (.int c0), .val (.int c1), .val (.int c2), .val (.int c3), .val (.ref b24), .val (.int (2 : Int32))] [])
            refine GoesW.step (fun _ k => XS.iconst X40.here hx rfl (hb hby at_252) k) ?_
            refine GoesW.step (fun _ k => XS.goto X40.here hx rfl (pc0 := 253) (pc' := 257) rfl (hb hby at_253) (by decide) (by decide) k) ?_
            show GoesW p e below s _ _ _ T40 (mkF m 257 #[.val (.int p1), .val (.int p2), .val (.int p3), .val (.int (3 : Int32)), .val (.int c0), .val (.int c1), .val (.int c2), .val (.int c3), .val (.ref b24), .val (.int (2 : Int32))] [(.int (1 : Int32))])
            exact GoesW.outN (s := s) (vm₁ := s.vm) X40 ((State.WarmedH.refl s).since 0) (Nat.zero_le _) hx hlk (t := .boolean) Bd.returns (by simp) (hb hby at_257) ⟨rfl, N_29⟩ (by decide) (by decide)
          · refine GoesW.step (fun _ k => XS.ifNo X39.here hx rfl (hb hby at_236) rfl ((if0 _ _).trans (feq hc236).1) k) ?_
            show GoesW p e below s _ _ _ T39 (mkF m 239 #[.val (.int p1), .val (.int p2), .val (.int p3), .val (.int (3 : Int32)), .val (.int c0), .val (.int c1), .val (.int c2), .val (.int c3), .val (.ref b24), .val (.int (2 : Int32))] [])
            refine GoesW.step (fun _ k => XS.iconst X39.here hx rfl (hb hby at_239) k) ?_
            refine GoesW.step (fun _ k => XS.istore X39.here hx rfl (hb hby at_240) rfl (l' := #[.val (.int p1), .val (.int p2), .val (.int p3), .val (.int (3 : Int32)), .val (.int c0), .val (.int c1), .val (.int c2), .val (.int c3), .val (.ref b24), .val (.int (0 : Int32))]) rfl k) ?_
            refine GoesW.step (fun _ k => XS.aload X39.here hx rfl (hb hby at_242) rfl rfl k) ?_
            show GoesW p e below s _ _ _ T39 (mkF m 244 #[.val (.int p1), .val (.int p2), .val (.int p3), .val (.int (3 : Int32)), .val (.int c0), .val (.int c1), .val (.int c2), .val (.int c3), .val (.ref b24), .val (.int (0 : Int32))] [(.ref b24)])
            obtain ⟨T41, X41, e41, st41⟩ := own_pure (r := some (.int (own_ix (fun i => f16 ((own_cs c0 c1 c2 c3) i)) 3 0))) (fun _ _ _ q => q) (callX X39 hx hZ (y := (⟨"com/example/cartouche/cartouche/ControlCharacters", "indexIn", "(Ljava/lang/String;)I"⟩ : MethodName)) hown (hw _ (List.mem_of_getElem? (i := 36) rfl)) (hw _ (List.mem_of_getElem? (i := 37) rfl)) (hw _ (List.mem_of_getElem? (i := 38) rfl)) (hw _ (List.mem_of_getElem? (i := 39) rfl)) (by decide) (W := 0) (argsL := [(.ref b24)]) (rest := []) (rm8n3 l Z a0 hw [] b24 G1 oF (own_cs c0 c1 c2 c3) h29 n0 z_29 O2 P3 (OL.keep K_29 all0) O4 O5 O6 O7 hT29) (by decide) (by decide) (by decide) (by decide) e39 (g := (mkF m 244 #[.val (.int p1), .val (.int p2), .val (.int p3), .val (.int (3 : Int32)), .val (.int c0), .val (.int c1), .val (.int c2), .val (.int c3), .val (.ref b24), .val (.int (0 : Int32))] [(.ref b24)])) rfl (by rw [hml]; rfl) (lenOf pd_0_1 rfl) rfl (by show 2 * 0 + _ ≤ _; exact Nat.le_of_eq rfl) (hb hby at_244))
            refine GoesW.step st41 ?_
            show GoesW p e below s _ _ _ T41 (mkF m 247 #[.val (.int p1), .val (.int p2), .val (.int p3), .val (.int (3 : Int32)), .val (.int c0), .val (.int c1), .val (.int c2), .val (.int c3), .val (.ref b24), .val (.int (0 : Int32))] [(.int (own_ix (fun i => f16 ((own_cs c0 c1 c2 c3) i)) 3 0))])
            refine GoesW.step (fun _ k => XS.iload X41.here hx rfl (hb hby at_247) rfl k) ?_
            refine GoesW.step (fun _ k => XS.icmpNo X41.here hx rfl (hb hby at_249) rfl (teq (by rw [own_x3]; simp [own_cs, own_same, hc205, hc221, hc236])).2 k) ?_
            show GoesW p e below s _ _ _ T41 (mkF m 252 #[.val (.int p1), .val (.int p2), .val (.int p3), .val (.int (3 : Int32)), .val (.int c0), .val (.int c1), .val (.int c2), .val (.int c3), .val (.ref b24), .val (.int (0 : Int32))] [])
            refine GoesW.step (fun _ k => XS.iconst X41.here hx rfl (hb hby at_252) k) ?_
            refine GoesW.step (fun _ k => XS.goto X41.here hx rfl (pc0 := 253) (pc' := 257) rfl (hb hby at_253) (by decide) (by decide) k) ?_
            show GoesW p e below s _ _ _ T41 (mkF m 257 #[.val (.int p1), .val (.int p2), .val (.int p3), .val (.int (3 : Int32)), .val (.int c0), .val (.int c1), .val (.int c2), .val (.int c3), .val (.ref b24), .val (.int (0 : Int32))] [(.int (1 : Int32))])
            exact GoesW.outN (s := s) (vm₁ := s.vm) X41 ((State.WarmedH.refl s).since 0) (Nat.zero_le _) hx hlk (t := .boolean) Bd.returns (by simp) (hb hby at_257) ⟨rfl, N_29⟩ (by decide) (by decide)
        · refine GoesW.step (fun _ k => XS.ifNo X38.here hx rfl (hb hby at_221) rfl ((if0 _ _).trans (feq hc221).1) k) ?_
          show GoesW p e below s _ _ _ T38 (mkF m 224 #[.val (.int p1), .val (.int p2), .val (.int p3), .val (.int (3 : Int32)), .val (.int c0), .val (.int c1), .val (.int c2), .val (.int c3), .val (.ref b24), .val (.int (2 : Int32))] [])
          refine GoesW.step (fun _ k => XS.iconst X38.here hx rfl (hb hby at_224) k) ?_
          refine GoesW.step (fun _ k => XS.istore X38.here hx rfl (hb hby at_225) rfl (l' := #[.val (.int p1), .val (.int p2), .val (.int p3), .val (.int (3 : Int32)), .val (.int c0), .val (.int c1), .val (.int c2), .val (.int c3), .val (.ref b24), .val (.int (1 : Int32))]) rfl k) ?_
          refine GoesW.step (fun _ k => XS.iloadN X38.here hx rfl (hb hby at_227) rfl k) ?_
          show GoesW p e below s _ _ _ T38 (mkF m 228 #[.val (.int p1), .val (.int p2), .val (.int p3), .val (.int (3 : Int32)), .val (.int c0), .val (.int c1), .val (.int c2), .val (.int c3), .val (.ref b24), .val (.int (1 : Int32))] [(.int (3 : Int32))])
          refine GoesW.step (fun _ k => XS.ifNo X38.here hx rfl (hb hby at_228) rfl ((if0 _ _).trans (tlt (by decide : (0 : Int32) < (3 : Int32))).2.2.2) k) ?_
          show GoesW p e below s _ _ _ T38 (mkF m 231 #[.val (.int p1), .val (.int p2), .val (.int p3), .val (.int (3 : Int32)), .val (.int c0), .val (.int c1), .val (.int c2), .val (.int c3), .val (.ref b24), .val (.int (1 : Int32))] [])
          refine GoesW.step (fun _ k => XS.iload X38.here hx rfl (hb hby at_231) rfl k) ?_
          obtain ⟨T42, X42, e42, st42⟩ := callPure X38 hx hZ (y := (⟨"com/example/cartouche/cartouche/ControlCharactersIndexInPinLaw", "ctrl", "(C)Z"⟩ : MethodName)) hown (hw _ (List.mem_of_getElem? (i := 32) rfl)) (hw _ (List.mem_of_getElem? (i := 33) rfl)) (hw _ (List.mem_of_getElem? (i := 34) rfl)) (hw _ (List.mem_of_getElem? (i := 35) rfl)) (by decide) (W := 0) (argsL := [(.int c0)]) (rest := []) (r := (.int (f7 c0))) (fun _ _ _ q => q) (rm7 l Z a0 hw [] c0 h29 ) (by decide) (by decide) (by decide) (by decide) e38 (g := (mkF m 233 #[.val (.int p1), .val (.int p2), .val (.int p3), .val (.int (3 : Int32)), .val (.int c0), .val (.int c1), .val (.int c2), .val (.int c3), .val (.ref b24), .val (.int (1 : Int32))] [(.int c0)])) rfl (by rw [hml]; rfl) (lenOf pd_0_2 rfl) rfl (by show 2 * 0 + _ ≤ _; exact Nat.le_of_eq rfl) (hb hby at_233)
          refine GoesW.step st42 ?_
          show GoesW p e below s _ _ _ T42 (mkF m 236 #[.val (.int p1), .val (.int p2), .val (.int p3), .val (.int (3 : Int32)), .val (.int c0), .val (.int c1), .val (.int c2), .val (.int c3), .val (.ref b24), .val (.int (1 : Int32))] [(.int (f7 c0))])
          by_cases hc236 : (f7 c0) = (0 : Int32)
          · refine GoesW.step (fun _ k => XS.ifYes X42.here hx rfl (pc0 := 236) (pc' := 242) rfl (hb hby at_236) rfl ((if0 _ _).trans (teq hc236).1) (by decide) (by decide) k) ?_
            show GoesW p e below s _ _ _ T42 (mkF m 242 #[.val (.int p1), .val (.int p2), .val (.int p3), .val (.int (3 : Int32)), .val (.int c0), .val (.int c1), .val (.int c2), .val (.int c3), .val (.ref b24), .val (.int (1 : Int32))] [])
            refine GoesW.step (fun _ k => XS.aload X42.here hx rfl (hb hby at_242) rfl rfl k) ?_
            obtain ⟨T43, X43, e43, st43⟩ := own_pure (r := some (.int (own_ix (fun i => f16 ((own_cs c0 c1 c2 c3) i)) 3 0))) (fun _ _ _ q => q) (callX X42 hx hZ (y := (⟨"com/example/cartouche/cartouche/ControlCharacters", "indexIn", "(Ljava/lang/String;)I"⟩ : MethodName)) hown (hw _ (List.mem_of_getElem? (i := 36) rfl)) (hw _ (List.mem_of_getElem? (i := 37) rfl)) (hw _ (List.mem_of_getElem? (i := 38) rfl)) (hw _ (List.mem_of_getElem? (i := 39) rfl)) (by decide) (W := 0) (argsL := [(.ref b24)]) (rest := []) (rm8n3 l Z a0 hw [] b24 G1 oF (own_cs c0 c1 c2 c3) h29 n0 z_29 O2 P3 (OL.keep K_29 all0) O4 O5 O6 O7 hT29) (by decide) (by decide) (by decide) (by decide) e42 (g := (mkF m 244 #[.val (.int p1), .val (.int p2), .val (.int p3), .val (.int (3 : Int32)), .val (.int c0), .val (.int c1), .val (.int c2), .val (.int c3), .val (.ref b24), .val (.int (1 : Int32))] [(.ref b24)])) rfl (by rw [hml]; rfl) (lenOf pd_0_1 rfl) rfl (by show 2 * 0 + _ ≤ _; exact Nat.le_of_eq rfl) (hb hby at_244))
            refine GoesW.step st43 ?_
            show GoesW p e below s _ _ _ T43 (mkF m 247 #[.val (.int p1), .val (.int p2), .val (.int p3), .val (.int (3 : Int32)), .val (.int c0), .val (.int c1), .val (.int c2), .val (.int c3), .val (.ref b24), .val (.int (1 : Int32))] [(.int (own_ix (fun i => f16 ((own_cs c0 c1 c2 c3) i)) 3 0))])
            refine GoesW.step (fun _ k => XS.iload X43.here hx rfl (hb hby at_247) rfl k) ?_
            refine GoesW.step (fun _ k => XS.icmpNo X43.here hx rfl (hb hby at_249) rfl (teq (by rw [own_x3]; simp [own_cs, own_same, hc205, hc221, hc236])).2 k) ?_
            show GoesW p e below s _ _ _ T43 (mkF m 252 #[.val (.int p1), .val (.int p2), .val (.int p3), .val (.int (3 : Int32)), .val (.int c0), .val (.int c1), .val (.int c2), .val (.int c3), .val (.ref b24), .val (.int (1 : Int32))] [])
            refine GoesW.step (fun _ k => XS.iconst X43.here hx rfl (hb hby at_252) k) ?_
            refine GoesW.step (fun _ k => XS.goto X43.here hx rfl (pc0 := 253) (pc' := 257) rfl (hb hby at_253) (by decide) (by decide) k) ?_
            show GoesW p e below s _ _ _ T43 (mkF m 257 #[.val (.int p1), .val (.int p2), .val (.int p3), .val (.int (3 : Int32)), .val (.int c0), .val (.int c1), .val (.int c2), .val (.int c3), .val (.ref b24), .val (.int (1 : Int32))] [(.int (1 : Int32))])
            exact GoesW.outN (s := s) (vm₁ := s.vm) X43 ((State.WarmedH.refl s).since 0) (Nat.zero_le _) hx hlk (t := .boolean) Bd.returns (by simp) (hb hby at_257) ⟨rfl, N_29⟩ (by decide) (by decide)
          · refine GoesW.step (fun _ k => XS.ifNo X42.here hx rfl (hb hby at_236) rfl ((if0 _ _).trans (feq hc236).1) k) ?_
            show GoesW p e below s _ _ _ T42 (mkF m 239 #[.val (.int p1), .val (.int p2), .val (.int p3), .val (.int (3 : Int32)), .val (.int c0), .val (.int c1), .val (.int c2), .val (.int c3), .val (.ref b24), .val (.int (1 : Int32))] [])
            refine GoesW.step (fun _ k => XS.iconst X42.here hx rfl (hb hby at_239) k) ?_
            refine GoesW.step (fun _ k => XS.istore X42.here hx rfl (hb hby at_240) rfl (l' := #[.val (.int p1), .val (.int p2), .val (.int p3), .val (.int (3 : Int32)), .val (.int c0), .val (.int c1), .val (.int c2), .val (.int c3), .val (.ref b24), .val (.int (0 : Int32))]) rfl k) ?_
            refine GoesW.step (fun _ k => XS.aload X42.here hx rfl (hb hby at_242) rfl rfl k) ?_
            show GoesW p e below s _ _ _ T42 (mkF m 244 #[.val (.int p1), .val (.int p2), .val (.int p3), .val (.int (3 : Int32)), .val (.int c0), .val (.int c1), .val (.int c2), .val (.int c3), .val (.ref b24), .val (.int (0 : Int32))] [(.ref b24)])
            obtain ⟨T44, X44, e44, st44⟩ := own_pure (r := some (.int (own_ix (fun i => f16 ((own_cs c0 c1 c2 c3) i)) 3 0))) (fun _ _ _ q => q) (callX X42 hx hZ (y := (⟨"com/example/cartouche/cartouche/ControlCharacters", "indexIn", "(Ljava/lang/String;)I"⟩ : MethodName)) hown (hw _ (List.mem_of_getElem? (i := 36) rfl)) (hw _ (List.mem_of_getElem? (i := 37) rfl)) (hw _ (List.mem_of_getElem? (i := 38) rfl)) (hw _ (List.mem_of_getElem? (i := 39) rfl)) (by decide) (W := 0) (argsL := [(.ref b24)]) (rest := []) (rm8n3 l Z a0 hw [] b24 G1 oF (own_cs c0 c1 c2 c3) h29 n0 z_29 O2 P3 (OL.keep K_29 all0) O4 O5 O6 O7 hT29) (by decide) (by decide) (by decide) (by decide) e42 (g := (mkF m 244 #[.val (.int p1), .val (.int p2), .val (.int p3), .val (.int (3 : Int32)), .val (.int c0), .val (.int c1), .val (.int c2), .val (.int c3), .val (.ref b24), .val (.int (0 : Int32))] [(.ref b24)])) rfl (by rw [hml]; rfl) (lenOf pd_0_1 rfl) rfl (by show 2 * 0 + _ ≤ _; exact Nat.le_of_eq rfl) (hb hby at_244))
            refine GoesW.step st44 ?_
            show GoesW p e below s _ _ _ T44 (mkF m 247 #[.val (.int p1), .val (.int p2), .val (.int p3), .val (.int (3 : Int32)), .val (.int c0), .val (.int c1), .val (.int c2), .val (.int c3), .val (.ref b24), .val (.int (0 : Int32))] [(.int (own_ix (fun i => f16 ((own_cs c0 c1 c2 c3) i)) 3 0))])
            refine GoesW.step (fun _ k => XS.iload X44.here hx rfl (hb hby at_247) rfl k) ?_
            refine GoesW.step (fun _ k => XS.icmpNo X44.here hx rfl (hb hby at_249) rfl (teq (by rw [own_x3]; simp [own_cs, own_same, hc205, hc221, hc236])).2 k) ?_
            show GoesW p e below s _ _ _ T44 (mkF m 252 #[.val (.int p1), .val (.int p2), .val (.int p3), .val (.int (3 : Int32)), .val (.int c0), .val (.int c1), .val (.int c2), .val (.int c3), .val (.ref b24), .val (.int (0 : Int32))] [])
            refine GoesW.step (fun _ k => XS.iconst X44.here hx rfl (hb hby at_252) k) ?_
            refine GoesW.step (fun _ k => XS.goto X44.here hx rfl (pc0 := 253) (pc' := 257) rfl (hb hby at_253) (by decide) (by decide) k) ?_
            show GoesW p e below s _ _ _ T44 (mkF m 257 #[.val (.int p1), .val (.int p2), .val (.int p3), .val (.int (3 : Int32)), .val (.int c0), .val (.int c1), .val (.int c2), .val (.int c3), .val (.ref b24), .val (.int (0 : Int32))] [(.int (1 : Int32))])
            exact GoesW.outN (s := s) (vm₁ := s.vm) X44 ((State.WarmedH.refl s).since 0) (Nat.zero_le _) hx hlk (t := .boolean) Bd.returns (by simp) (hb hby at_257) ⟨rfl, N_29⟩ (by decide) (by decide)
  · rw [hq]
    refine GoesW.step (fun _ k => XS.istoreN X0.here hx rfl (hb hby at_6) rfl (l' := #[.val (.int p1), .val (.int p2), .val (.int p3), .val (.int (4 : Int32)), .unset, .unset, .unset, .unset, .unset, .unset]) rfl k) ?_
    refine GoesW.step (fun _ k => XS.iloadN X0.here hx rfl (hb hby at_7) rfl k) ?_
    refine GoesW.step (fun _ k => X0.ldcInt hx hown (mvT hZ (hw _ (List.mem_of_getElem? (i := 1) rfl))) (g := (mkF m 8 #[.val (.int p1), .val (.int p2), .val (.int p3), .val (.int (4 : Int32)), .unset, .unset, .unset, .unset, .unset, .unset] [(.int p1)])) rfl (hb hby at_8) _ k) ?_
    show GoesW p e below s _ _ _ s₁ (mkF m 10 #[.val (.int p1), .val (.int p2), .val (.int p3), .val (.int (4 : Int32)), .unset, .unset, .unset, .unset, .unset, .unset] [(.int (65535 : Int32)), (.int p1)])
    refine GoesW.step (fun _ k => XS.iand X0.here hx rfl (hb hby at_10) rfl k) ?_
    refine GoesW.step (fun _ k => XS.i2c X0.here hx rfl (hb hby at_11) rfl k) ?_
    show GoesW p e below s _ _ _ s₁ (mkF m 12 #[.val (.int p1), .val (.int p2), .val (.int p3), .val (.int (4 : Int32)), .unset, .unset, .unset, .unset, .unset, .unset] [(.int ((p1 &&& (65535 : Int32)).toUInt32.toUInt16.toUInt32.toInt32))])
    obtain ⟨c0, ec0, rc0⟩ := own_chr ((p1 &&& (65535 : Int32)))
    rw [ec0]
    refine GoesW.step (fun _ k => XS.istore X0.here hx rfl (hb hby at_12) rfl (l' := #[.val (.int p1), .val (.int p2), .val (.int p3), .val (.int (4 : Int32)), .val (.int c0), .unset, .unset, .unset, .unset, .unset]) rfl k) ?_
    refine GoesW.step (fun _ k => XS.iloadN X0.here hx rfl (hb hby at_14) rfl k) ?_
    refine GoesW.step (fun _ k => XS.bipush X0.here hx rfl (hb hby at_15) k) ?_
    show GoesW p e below s _ _ _ s₁ (mkF m 17 #[.val (.int p1), .val (.int p2), .val (.int p3), .val (.int (4 : Int32)), .val (.int c0), .unset, .unset, .unset, .unset, .unset] [(.int (16 : Int32)), (.int p1)])
    refine GoesW.step (fun _ k => XS.iushr X0.here hx rfl (hb hby at_17) rfl k) ?_
    show GoesW p e below s _ _ _ s₁ (mkF m 18 #[.val (.int p1), .val (.int p2), .val (.int p3), .val (.int (4 : Int32)), .val (.int c0), .unset, .unset, .unset, .unset, .unset] [(.int ((p1.toUInt32 >>> ((16 : Int32) &&& 31).toUInt32).toInt32))])
    refine GoesW.step (fun _ k => XS.i2c X0.here hx rfl (hb hby at_18) rfl k) ?_
    show GoesW p e below s _ _ _ s₁ (mkF m 19 #[.val (.int p1), .val (.int p2), .val (.int p3), .val (.int (4 : Int32)), .val (.int c0), .unset, .unset, .unset, .unset, .unset] [(.int (((p1.toUInt32 >>> ((16 : Int32) &&& 31).toUInt32).toInt32).toUInt32.toUInt16.toUInt32.toInt32))])
    obtain ⟨c1, ec1, rc1⟩ := own_chr (((p1.toUInt32 >>> ((16 : Int32) &&& 31).toUInt32).toInt32))
    rw [ec1]
    refine GoesW.step (fun _ k => XS.istore X0.here hx rfl (hb hby at_19) rfl (l' := #[.val (.int p1), .val (.int p2), .val (.int p3), .val (.int (4 : Int32)), .val (.int c0), .val (.int c1), .unset, .unset, .unset, .unset]) rfl k) ?_
    refine GoesW.step (fun _ k => XS.iloadN X0.here hx rfl (hb hby at_21) rfl k) ?_
    refine GoesW.step (fun _ k => X0.ldcInt hx hown (mvT hZ (hw _ (List.mem_of_getElem? (i := 1) rfl))) (g := (mkF m 22 #[.val (.int p1), .val (.int p2), .val (.int p3), .val (.int (4 : Int32)), .val (.int c0), .val (.int c1), .unset, .unset, .unset, .unset] [(.int p2)])) rfl (hb hby at_22) _ k) ?_
    show GoesW p e below s _ _ _ s₁ (mkF m 24 #[.val (.int p1), .val (.int p2), .val (.int p3), .val (.int (4 : Int32)), .val (.int c0), .val (.int c1), .unset, .unset, .unset, .unset] [(.int (65535 : Int32)), (.int p2)])
    refine GoesW.step (fun _ k => XS.iand X0.here hx rfl (hb hby at_24) rfl k) ?_
    refine GoesW.step (fun _ k => XS.i2c X0.here hx rfl (hb hby at_25) rfl k) ?_
    show GoesW p e below s _ _ _ s₁ (mkF m 26 #[.val (.int p1), .val (.int p2), .val (.int p3), .val (.int (4 : Int32)), .val (.int c0), .val (.int c1), .unset, .unset, .unset, .unset] [(.int ((p2 &&& (65535 : Int32)).toUInt32.toUInt16.toUInt32.toInt32))])
    obtain ⟨c2, ec2, rc2⟩ := own_chr ((p2 &&& (65535 : Int32)))
    rw [ec2]
    refine GoesW.step (fun _ k => XS.istore X0.here hx rfl (hb hby at_26) rfl (l' := #[.val (.int p1), .val (.int p2), .val (.int p3), .val (.int (4 : Int32)), .val (.int c0), .val (.int c1), .val (.int c2), .unset, .unset, .unset]) rfl k) ?_
    refine GoesW.step (fun _ k => XS.iloadN X0.here hx rfl (hb hby at_28) rfl k) ?_
    refine GoesW.step (fun _ k => XS.bipush X0.here hx rfl (hb hby at_29) k) ?_
    show GoesW p e below s _ _ _ s₁ (mkF m 31 #[.val (.int p1), .val (.int p2), .val (.int p3), .val (.int (4 : Int32)), .val (.int c0), .val (.int c1), .val (.int c2), .unset, .unset, .unset] [(.int (16 : Int32)), (.int p2)])
    refine GoesW.step (fun _ k => XS.iushr X0.here hx rfl (hb hby at_31) rfl k) ?_
    show GoesW p e below s _ _ _ s₁ (mkF m 32 #[.val (.int p1), .val (.int p2), .val (.int p3), .val (.int (4 : Int32)), .val (.int c0), .val (.int c1), .val (.int c2), .unset, .unset, .unset] [(.int ((p2.toUInt32 >>> ((16 : Int32) &&& 31).toUInt32).toInt32))])
    refine GoesW.step (fun _ k => XS.i2c X0.here hx rfl (hb hby at_32) rfl k) ?_
    show GoesW p e below s _ _ _ s₁ (mkF m 33 #[.val (.int p1), .val (.int p2), .val (.int p3), .val (.int (4 : Int32)), .val (.int c0), .val (.int c1), .val (.int c2), .unset, .unset, .unset] [(.int (((p2.toUInt32 >>> ((16 : Int32) &&& 31).toUInt32).toInt32).toUInt32.toUInt16.toUInt32.toInt32))])
    obtain ⟨c3, ec3, rc3⟩ := own_chr (((p2.toUInt32 >>> ((16 : Int32) &&& 31).toUInt32).toInt32))
    rw [ec3]
    refine GoesW.step (fun _ k => XS.istore X0.here hx rfl (hb hby at_33) rfl (l' := #[.val (.int p1), .val (.int p2), .val (.int p3), .val (.int (4 : Int32)), .val (.int c0), .val (.int c1), .val (.int c2), .val (.int c3), .unset, .unset]) rfl k) ?_
    refine GoesW.step (fun _ k => XS.iloadN X0.here hx rfl (hb hby at_35) rfl k) ?_
    refine GoesW.step (fun _ k => XS.ifYes X0.here hx rfl (pc0 := 36) (pc' := 54) rfl (hb hby at_36) rfl ((if0 _ _).trans (feq (by decide : ¬ ((4 : Int32) = (0 : Int32)))).2) (by decide) (by decide) k) ?_
    show GoesW p e below s _ _ _ s₁ (mkF m 54 #[.val (.int p1), .val (.int p2), .val (.int p3), .val (.int (4 : Int32)), .val (.int c0), .val (.int c1), .val (.int c2), .val (.int c3), .unset, .unset] [])
    refine GoesW.step (fun _ k => XS.iloadN X0.here hx rfl (hb hby at_54) rfl k) ?_
    refine GoesW.step (fun _ k => XS.iconst X0.here hx rfl (hb hby at_55) k) ?_
    refine GoesW.step (fun _ k => XS.icmpYes X0.here hx rfl (pc0 := 56) (pc' := 79) rfl (hb hby at_56) rfl (feq (by decide : ¬ ((4 : Int32) = (1 : Int32)))).2 (by decide) (by decide) k) ?_
    show GoesW p e below s _ _ _ s₁ (mkF m 79 #[.val (.int p1), .val (.int p2), .val (.int p3), .val (.int (4 : Int32)), .val (.int c0), .val (.int c1), .val (.int c2), .val (.int c3), .unset, .unset] [])
    refine GoesW.step (fun _ k => XS.iloadN X0.here hx rfl (hb hby at_79) rfl k) ?_
    refine GoesW.step (fun _ k => XS.iconst X0.here hx rfl (hb hby at_80) k) ?_
    refine GoesW.step (fun _ k => XS.icmpYes X0.here hx rfl (pc0 := 81) (pc' := 109) rfl (hb hby at_81) rfl (feq (by decide : ¬ ((4 : Int32) = (2 : Int32)))).2 (by decide) (by decide) k) ?_
    show GoesW p e below s _ _ _ s₁ (mkF m 109 #[.val (.int p1), .val (.int p2), .val (.int p3), .val (.int (4 : Int32)), .val (.int c0), .val (.int c1), .val (.int c2), .val (.int c3), .unset, .unset] [])
    refine GoesW.step (fun _ k => XS.iloadN X0.here hx rfl (hb hby at_109) rfl k) ?_
    refine GoesW.step (fun _ k => XS.iconst X0.here hx rfl (hb hby at_110) k) ?_
    refine GoesW.step (fun _ k => XS.icmpYes X0.here hx rfl (pc0 := 111) (pc' := 144) rfl (hb hby at_111) rfl (feq (by decide : ¬ ((4 : Int32) = (3 : Int32)))).2 (by decide) (by decide) k) ?_
    show GoesW p e below s _ _ _ s₁ (mkF m 144 #[.val (.int p1), .val (.int p2), .val (.int p3), .val (.int (4 : Int32)), .val (.int c0), .val (.int c1), .val (.int c2), .val (.int c3), .unset, .unset] [])
    obtain ⟨T45, h45, X45, e45, E45, A45, D45, -, st45⟩ := newO X0 hx hZ hown (hw _ (List.mem_of_getElem? (i := 2) rfl)) (hw _ (List.mem_of_getElem? (i := 3) rfl)) (hw _ (List.mem_of_getElem? (i := 4) rfl)) e0 (g := (mkF m 144 #[.val (.int p1), .val (.int p2), .val (.int p3), .val (.int (4 : Int32)), .val (.int c0), .val (.int c1), .val (.int c2), .val (.int c3), .unset, .unset] [])) rfl (hb hby at_144) (by decide) (by decide)
    obtain ⟨b45, g_45⟩ : ∃ z, z = h0.size := ⟨_, rfl⟩
    rw [← g_45] at A45 D45 st45
    refine GoesW.step st45 ?_
    have ge_b45 : n0 ≤ b45 := by rw [g_45]; exact Z0
    have sz_b45 : h0.size ≤ b45 := by rw [g_45]; exact K0.1
    have z_45 : n0 ≤ h45.size := Nat.le_trans Z0 E45.1
    have K_45 : Keep h0 h45 [] := K0.ext E45
    have E_b45_45 : Exa Z h45 b45 "java/lang/String" := A45
    have F_b45_coder_45 : Fld Z h45 b45 "java/lang/String" "coder" "B" (.int (0 : Int32)) := D45 (Or.inr (hw _ (List.mem_of_getElem? (i := 29) rfl))) (ty := .byte) (by decide)
    have F_b45_value_45 : Fld Z h45 b45 "java/lang/String" "value" "[B" .null := D45 (Or.inr (hw _ (List.mem_of_getElem? (i := 31) rfl))) (ty := (.array .byte)) (by decide)
    show GoesW p e below s _ _ _ T45 (mkF m 147 #[.val (.int p1), .val (.int p2), .val (.int p3), .val (.int (4 : Int32)), .val (.int c0), .val (.int c1), .val (.int c2), .val (.int c3), .unset, .unset] [(.ref b45)])
    refine GoesW.step (fun _ k => XS.dup X45.here hx rfl (hb hby at_147) rfl rfl k) ?_
    refine GoesW.step (fun _ k => XS.iconst X45.here hx rfl (hb hby at_148) k) ?_
    obtain ⟨T46, h46, X46, e46, E46, A46, st46⟩ := newI X45 hx hZ (hw _ (List.mem_of_getElem? (i := 5) rfl)) e45 (g := (mkF m 149 #[.val (.int p1), .val (.int p2), .val (.int p3), .val (.int (4 : Int32)), .val (.int c0), .val (.int c1), .val (.int c2), .val (.int c3), .unset, .unset] [(.int (4 : Int32)), (.ref b45), (.ref b45)])) rfl (hb hby at_149) rfl (N := 4) rfl (cap := 4) (by decide) (by decide) (by decide) (by decide) rfl (by decide)
    obtain ⟨b46, g_46⟩ : ∃ z, z = h45.size := ⟨_, rfl⟩
    rw [← g_46] at A46 st46
    refine GoesW.step st46 ?_
    have ne_b45_b46 : b45 ≠ b46 := Nat.ne_of_lt (by rw [g_46]; exact E_b45_45.lt)
    have ge_b46 : n0 ≤ b46 := by rw [g_46]; exact z_45
    have sz_b46 : h0.size ≤ b46 := by rw [g_46]; exact K_45.1
    have E_b45_46 := E_b45_45.ext E46
    have F_b45_coder_46 := F_b45_coder_45.ext E46
    have F_b45_value_46 := F_b45_value_45.ext E46
    have z_46 : n0 ≤ h46.size := Nat.le_trans z_45 E46.1
    have K_46 : Keep h0 h46 [] := K_45.ext E46
    have A_b46_46 : Ari Z h46 b46 .char (4) (fun _ => 0) := A46
    show GoesW p e below s _ _ _ T46 (mkF m 151 #[.val (.int p1), .val (.int p2), .val (.int p3), .val (.int (4 : Int32)), .val (.int c0), .val (.int c1), .val (.int c2), .val (.int c3), .unset, .unset] [(.ref b46), (.ref b45), (.ref b45)])
    refine GoesW.step (fun _ k => XS.dup X46.here hx rfl (hb hby at_151) rfl rfl k) ?_
    refine GoesW.step (fun _ k => XS.iconst X46.here hx rfl (hb hby at_152) k) ?_
    refine GoesW.step (fun _ k => XS.iload X46.here hx rfl (hb hby at_153) rfl k) ?_
    show GoesW p e below s _ _ _ T46 (mkF m 155 #[.val (.int p1), .val (.int p2), .val (.int p3), .val (.int (4 : Int32)), .val (.int c0), .val (.int c1), .val (.int c2), .val (.int c3), .unset, .unset] [(.int c0), (.int (0 : Int32)), (.ref b46), (.ref b46), (.ref b45), (.ref b45)])
    obtain ⟨T47, h47, X47, e47, W47, A47, st47⟩ := stoC X46 hx hZ e46 A_b46_46 (0) rfl (by decide) (g := (mkF m 155 #[.val (.int p1), .val (.int p2), .val (.int p3), .val (.int (4 : Int32)), .val (.int c0), .val (.int c1), .val (.int c2), .val (.int c3), .unset, .unset] [(.int c0), (.int (0 : Int32)), (.ref b46), (.ref b46), (.ref b45), (.ref b45)])) rfl rfl (hb hby at_155)
    refine GoesW.step st47 ?_
    have E_b45_47 := E_b45_46.wr W47
    have F_b45_coder_47 := F_b45_coder_46.other W47 (Or.inl ne_b45_b46)
    have F_b45_value_47 := F_b45_value_46.other W47 (Or.inl ne_b45_b46)
    have z_47 : n0 ≤ h47.size := by rw [W47.size]; exact z_46
    have K_47 : Keep h0 h47 [] := K_46.wr W47 (Or.inr sz_b46)
    have N_47 := Fr.snoc X47 N0 ge_b46
    have A_b46_47 : Ari Z h47 b46 .char (4) (updI (fun _ => 0) (0) (nar .char c0)) := A47
    show GoesW p e below s _ _ _ T47 (mkF m 156 #[.val (.int p1), .val (.int p2), .val (.int p3), .val (.int (4 : Int32)), .val (.int c0), .val (.int c1), .val (.int c2), .val (.int c3), .unset, .unset] [(.ref b46), (.ref b45), (.ref b45)])
    refine GoesW.step (fun _ k => XS.dup X47.here hx rfl (hb hby at_156) rfl rfl k) ?_
    refine GoesW.step (fun _ k => XS.iconst X47.here hx rfl (hb hby at_157) k) ?_
    refine GoesW.step (fun _ k => XS.iload X47.here hx rfl (hb hby at_158) rfl k) ?_
    show GoesW p e below s _ _ _ T47 (mkF m 160 #[.val (.int p1), .val (.int p2), .val (.int p3), .val (.int (4 : Int32)), .val (.int c0), .val (.int c1), .val (.int c2), .val (.int c3), .unset, .unset] [(.int c1), (.int (1 : Int32)), (.ref b46), (.ref b46), (.ref b45), (.ref b45)])
    obtain ⟨T48, h48, X48, e48, W48, A48, st48⟩ := stoC X47 hx hZ e47 A_b46_47 (1) rfl (by decide) (g := (mkF m 160 #[.val (.int p1), .val (.int p2), .val (.int p3), .val (.int (4 : Int32)), .val (.int c0), .val (.int c1), .val (.int c2), .val (.int c3), .unset, .unset] [(.int c1), (.int (1 : Int32)), (.ref b46), (.ref b46), (.ref b45), (.ref b45)])) rfl rfl (hb hby at_160)
    refine GoesW.step st48 ?_
    have E_b45_48 := E_b45_47.wr W48
    have F_b45_coder_48 := F_b45_coder_47.other W48 (Or.inl ne_b45_b46)
    have F_b45_value_48 := F_b45_value_47.other W48 (Or.inl ne_b45_b46)
    have z_48 : n0 ≤ h48.size := by rw [W48.size]; exact z_47
    have K_48 : Keep h0 h48 [] := K_47.wr W48 (Or.inr sz_b46)
    have N_48 := Fr.snoc X48 N_47 ge_b46
    have A_b46_48 : Ari Z h48 b46 .char (4) (updI (updI (fun _ => 0) (0) (nar .char c0)) (1) (nar .char c1)) := A48
    show GoesW p e below s _ _ _ T48 (mkF m 161 #[.val (.int p1), .val (.int p2), .val (.int p3), .val (.int (4 : Int32)), .val (.int c0), .val (.int c1), .val (.int c2), .val (.int c3), .unset, .unset] [(.ref b46), (.ref b45), (.ref b45)])
    refine GoesW.step (fun _ k => XS.dup X48.here hx rfl (hb hby at_161) rfl rfl k) ?_
    as_aux_lemma =>
      refine GoesW.step (fun _ k => XS.iconst X48.here hx rfl (hb hby at_162) k) ?_
      refine GoesW.step (fun _ k => XS.iload X48.here hx rfl (hb hby at_163) rfl k) ?_
      show GoesW p e below s _ _ _ T48 (mkF m 165 #[.val (.int p1), .val (.int p2), .val (.int p3), .val (.int (4 : Int32)), .val (.int c0), .val (.int c1), .val (.int c2), .val (.int c3), .unset, .unset] [(.int c2), (.int (2 : Int32)), (.ref b46), (.ref b46), (.ref b45), (.ref b45)])
      obtain ⟨T49, h49, X49, e49, W49, A49, st49⟩ := stoC X48 hx hZ e48 A_b46_48 (2) rfl (by decide) (g := (mkF m 165 #[.val (.int p1), .val (.int p2), .val (.int p3), .val (.int (4 : Int32)), .val (.int c0), .val (.int c1), .val (.int c2), .val (.int c3), .unset, .unset] [(.int c2), (.int (2 : Int32)), (.ref b46), (.ref b46), (.ref b45), (.ref b45)])) rfl rfl (hb hby at_165)
      refine GoesW.step st49 ?_
      have E_b45_49 := E_b45_48.wr W49
      have F_b45_coder_49 := F_b45_coder_48.other W49 (Or.inl ne_b45_b46)
      have F_b45_value_49 := F_b45_value_48.other W49 (Or.inl ne_b45_b46)
      have z_49 : n0 ≤ h49.size := by rw [W49.size]; exact z_48
      have K_49 : Keep h0 h49 [] := K_48.wr W49 (Or.inr sz_b46)
      have N_49 := Fr.snoc X49 N_48 ge_b46
      have A_b46_49 : Ari Z h49 b46 .char (4) (updI (updI (updI (fun _ => 0) (0) (nar .char c0)) (1) (nar .char c1)) (2) (nar .char c2)) := A49
      show GoesW p e below s _ _ _ T49 (mkF m 166 #[.val (.int p1), .val (.int p2), .val (.int p3), .val (.int (4 : Int32)), .val (.int c0), .val (.int c1), .val (.int c2), .val (.int c3), .unset, .unset] [(.ref b46), (.ref b45), (.ref b45)])
      refine GoesW.step (fun _ k => XS.dup X49.here hx rfl (hb hby at_166) rfl rfl k) ?_
      refine GoesW.step (fun _ k => XS.iconst X49.here hx rfl (hb hby at_167) k) ?_
      refine GoesW.step (fun _ k => XS.iload X49.here hx rfl (hb hby at_168) rfl k) ?_
      show GoesW p e below s _ _ _ T49 (mkF m 170 #[.val (.int p1), .val (.int p2), .val (.int p3), .val (.int (4 : Int32)), .val (.int c0), .val (.int c1), .val (.int c2), .val (.int c3), .unset, .unset] [(.int c3), (.int (3 : Int32)), (.ref b46), (.ref b46), (.ref b45), (.ref b45)])
      obtain ⟨T50, h50, X50, e50, W50, A50, st50⟩ := stoC X49 hx hZ e49 A_b46_49 (3) rfl (by decide) (g := (mkF m 170 #[.val (.int p1), .val (.int p2), .val (.int p3), .val (.int (4 : Int32)), .val (.int c0), .val (.int c1), .val (.int c2), .val (.int c3), .unset, .unset] [(.int c3), (.int (3 : Int32)), (.ref b46), (.ref b46), (.ref b45), (.ref b45)])) rfl rfl (hb hby at_170)
      refine GoesW.step st50 ?_
      have E_b45_50 := E_b45_49.wr W50
      have F_b45_coder_50 := F_b45_coder_49.other W50 (Or.inl ne_b45_b46)
      have F_b45_value_50 := F_b45_value_49.other W50 (Or.inl ne_b45_b46)
      have z_50 : n0 ≤ h50.size := by rw [W50.size]; exact z_49
      have K_50 : Keep h0 h50 [] := K_49.wr W50 (Or.inr sz_b46)
      have N_50 := Fr.snoc X50 N_49 ge_b46
      have A_b46_50 : Ari Z h50 b46 .char (4) (updI (updI (updI (updI (fun _ => 0) (0) (nar .char c0)) (1) (nar .char c1)) (2) (nar .char c2)) (3) (nar .char c3)) := A50
      show GoesW p e below s _ _ _ T50 (mkF m 171 #[.val (.int p1), .val (.int p2), .val (.int p3), .val (.int (4 : Int32)), .val (.int c0), .val (.int c1), .val (.int c2), .val (.int c3), .unset, .unset] [(.ref b46), (.ref b45), (.ref b45)])
      have AC := A_b46_50.cast (g := (own_cs c0 c1 c2 c3)) (own_ch4 rc0 rc1 rc2 rc3)
      obtain ⟨v51, T51, h51, L51, X51, e51, Q51, st51⟩ := callXI X50 hx hZ (b := b45) (y := (⟨"java/lang/String", "<init>", "([C)V"⟩ : MethodName)) hown rfl (hw _ (List.mem_of_getElem? (i := 6) rfl)) (hw _ (List.mem_of_getElem? (i := 7) rfl)) (hw _ (List.mem_of_getElem? (i := 8) rfl)) (hw _ (List.mem_of_getElem? (i := 4) rfl)) (by decide) (W := 1) (argsL := [(.ref b46)]) (rest := [(.ref b45)]) (rm1n4 l Z a0 hw [] b45 b46 G1 (own_cs c0 c1 c2 c3) h50 n0 z_50 O2 P3 (OL.keep K_50 all0) O5 O6 O7 E_b45_50 F_b45_value_50 F_b45_coder_50 ge_b45 AC (own_csr rc0 rc1 rc2 rc3 4) (Ne.symm ne_b45_b46)) (by decide) (by decide) (by decide) (by decide) e50 (g := (mkF m 171 #[.val (.int p1), .val (.int p2), .val (.int p3), .val (.int (4 : Int32)), .val (.int c0), .val (.int c1), .val (.int c2), .val (.int c3), .unset, .unset] [(.ref b46), (.ref b45), (.ref b45)])) rfl (by rw [hml]; rfl) (lenOf pd_0_0 rfl) rfl (by show 2 * 0 + _ ≤ _; exact Nat.le_of_eq rfl) (hb hby at_171)
      obtain ⟨rfl, NQ51, KQ51, hT51⟩ := Q51
      refine GoesW.step st51 ?_
      have E_b45_51 := E_b45_50.keep KQ51
      have A_b46_51 := A_b46_50.keep KQ51 (ninS (Ne.symm ne_b45_b46) nin0)
      have z_51 : n0 ≤ h51.size := Nat.le_trans z_50 KQ51.1
      have K_51 : Keep h0 h51 [] := Keep.trans K_50 KQ51 (allS (Or.inr sz_b45) all0)
      have N_51 := Fr.app N_50 NQ51
      show GoesW p e below s _ _ _ T51 (mkF m 174 #[.val (.int p1), .val (.int p2), .val (.int p3), .val (.int (4 : Int32)), .val (.int c0), .val (.int c1), .val (.int c2), .val (.int c3), .unset, .unset] [(.ref b45)])
      refine GoesW.step (fun _ k => XS.astore X51.here hx rfl (hb hby at_174) rfl rfl (l' := #[.val (.int p1), .val (.int p2), .val (.int p3), .val (.int (4 : Int32)), .val (.int c0), .val (.int c1), .val (.int c2), .val (.int c3), .val (.ref b45), .unset]) rfl k) ?_
      refine GoesW.step (fun _ k => XS.iconst X51.here hx rfl (hb hby at_176) k) ?_
      refine GoesW.step (fun _ k => XS.istore X51.here hx rfl (hb hby at_177) rfl (l' := #[.val (.int p1), .val (.int p2), .val (.int p3), .val (.int (4 : Int32)), .val (.int c0), .val (.int c1), .val (.int c2), .val (.int c3), .val (.ref b45), .val (.int (-1 : Int32))]) rfl k) ?_
      show GoesW p e below s _ _ _ T51 (mkF m 179 #[.val (.int p1), .val (.int p2), .val (.int p3), .val (.int (4 : Int32)), .val (.int c0), .val (.int c1), .val (.int c2), .val (.int c3), .val (.ref b45), .val (.int (-1 : Int32))] [])
      refine GoesW.step (fun _ k => XS.iloadN X51.here hx rfl (hb hby at_179) rfl k) ?_
      refine GoesW.step (fun _ k => XS.iconst X51.here hx rfl (hb hby at_180) k) ?_
      refine GoesW.step (fun _ k => XS.icmpNo X51.here hx rfl (hb hby at_181) rfl (tlt (by decide : (3 : Int32) < (4 : Int32))).2.2.2 k) ?_
      show GoesW p e below s _ _ _ T51 (mkF m 184 #[.val (.int p1), .val (.int p2), .val (.int p3), .val (.int (4 : Int32)), .val (.int c0), .val (.int c1), .val (.int c2), .val (.int c3), .val (.ref b45), .val (.int (-1 : Int32))] [])
      refine GoesW.step (fun _ k => XS.iload X51.here hx rfl (hb hby at_184) rfl k) ?_
      obtain ⟨T52, X52, e52, st52⟩ := callPure X51 hx hZ (y := (⟨"com/example/cartouche/cartouche/ControlCharactersIndexInPinLaw", "ctrl", "(C)Z"⟩ : MethodName)) hown (hw _ (List.mem_of_getElem? (i := 32) rfl)) (hw _ (List.mem_of_getElem? (i := 33) rfl)) (hw _ (List.mem_of_getElem? (i := 34) rfl)) (hw _ (List.mem_of_getElem? (i := 35) rfl)) (by decide) (W := 0) (argsL := [(.int c3)]) (rest := []) (r := (.int (f7 c3))) (fun _ _ _ q => q) (rm7 l Z a0 hw [] c3 h51 ) (by decide) (by decide) (by decide) (by decide) e51 (g := (mkF m 186 #[.val (.int p1), .val (.int p2), .val (.int p3), .val (.int (4 : Int32)), .val (.int c0), .val (.int c1), .val (.int c2), .val (.int c3), .val (.ref b45), .val (.int (-1 : Int32))] [(.int c3)])) rfl (by rw [hml]; rfl) (lenOf pd_0_2 rfl) rfl (by show 2 * 0 + _ ≤ _; exact Nat.le_of_eq rfl) (hb hby at_186)
      refine GoesW.step st52 ?_
      show GoesW p e below s _ _ _ T52 (mkF m 189 #[.val (.int p1), .val (.int p2), .val (.int p3), .val (.int (4 : Int32)), .val (.int c0), .val (.int c1), .val (.int c2), .val (.int c3), .val (.ref b45), .val (.int (-1 : Int32))] [(.int (f7 c3))])
      by_cases hc189 : (f7 c3) = (0 : Int32)
      · refine GoesW.step (fun _ k => XS.ifYes X52.here hx rfl (pc0 := 189) (pc' := 195) rfl (hb hby at_189) rfl ((if0 _ _).trans (teq hc189).1) (by decide) (by decide) k) ?_
        show GoesW p e below s _ _ _ T52 (mkF m 195 #[.val (.int p1), .val (.int p2), .val (.int p3), .val (.int (4 : Int32)), .val (.int c0), .val (.int c1), .val (.int c2), .val (.int c3), .val (.ref b45), .val (.int (-1 : Int32))] [])
        refine GoesW.step (fun _ k => XS.iloadN X52.here hx rfl (hb hby at_195) rfl k) ?_
        refine GoesW.step (fun _ k => XS.iconst X52.here hx rfl (hb hby at_196) k) ?_
        refine GoesW.step (fun _ k => XS.icmpNo X52.here hx rfl (hb hby at_197) rfl (tlt (by decide : (2 : Int32) < (4 : Int32))).2.2.2 k) ?_
        show GoesW p e below s _ _ _ T52 (mkF m 200 #[.val (.int p1), .val (.int p2), .val (.int p3), .val (.int (4 : Int32)), .val (.int c0), .val (.int c1), .val (.int c2), .val (.int c3), .val (.ref b45), .val (.int (-1 : Int32))] [])
        refine GoesW.step (fun _ k => XS.iload X52.here hx rfl (hb hby at_200) rfl k) ?_
        obtain ⟨T53, X53, e53, st53⟩ := callPure X52 hx hZ (y := (⟨"com/example/cartouche/cartouche/ControlCharactersIndexInPinLaw", "ctrl", "(C)Z"⟩ : MethodName)) hown (hw _ (List.mem_of_getElem? (i := 32) rfl)) (hw _ (List.mem_of_getElem? (i := 33) rfl)) (hw _ (List.mem_of_getElem? (i := 34) rfl)) (hw _ (List.mem_of_getElem? (i := 35) rfl)) (by decide) (W := 0) (argsL := [(.int c2)]) (rest := []) (r := (.int (f7 c2))) (fun _ _ _ q => q) (rm7 l Z a0 hw [] c2 h51 ) (by decide) (by decide) (by decide) (by decide) e52 (g := (mkF m 202 #[.val (.int p1), .val (.int p2), .val (.int p3), .val (.int (4 : Int32)), .val (.int c0), .val (.int c1), .val (.int c2), .val (.int c3), .val (.ref b45), .val (.int (-1 : Int32))] [(.int c2)])) rfl (by rw [hml]; rfl) (lenOf pd_0_2 rfl) rfl (by show 2 * 0 + _ ≤ _; exact Nat.le_of_eq rfl) (hb hby at_202)
        refine GoesW.step st53 ?_
        show GoesW p e below s _ _ _ T53 (mkF m 205 #[.val (.int p1), .val (.int p2), .val (.int p3), .val (.int (4 : Int32)), .val (.int c0), .val (.int c1), .val (.int c2), .val (.int c3), .val (.ref b45), .val (.int (-1 : Int32))] [(.int (f7 c2))])
        by_cases hc205 : (f7 c2) = (0 : Int32)
        · refine GoesW.step (fun _ k => XS.ifYes X53.here hx rfl (pc0 := 205) (pc' := 211) rfl (hb hby at_205) rfl ((if0 _ _).trans (teq hc205).1) (by decide) (by decide) k) ?_
          show GoesW p e below s _ _ _ T53 (mkF m 211 #[.val (.int p1), .val (.int p2), .val (.int p3), .val (.int (4 : Int32)), .val (.int c0), .val (.int c1), .val (.int c2), .val (.int c3), .val (.ref b45), .val (.int (-1 : Int32))] [])
          refine GoesW.step (fun _ k => XS.iloadN X53.here hx rfl (hb hby at_211) rfl k) ?_
          refine GoesW.step (fun _ k => XS.iconst X53.here hx rfl (hb hby at_212) k) ?_
          refine GoesW.step (fun _ k => XS.icmpNo X53.here hx rfl (hb hby at_213) rfl (tlt (by decide : (1 : Int32) < (4 : Int32))).2.2.2 k) ?_
          show GoesW p e below s _ _ _ T53 (mkF m 216 #[.val (.int p1), .val (.int p2), .val (.int p3), .val (.int (4 : Int32)), .val (.int c0), .val (.int c1), .val (.int c2), .val (.int c3), .val (.ref b45), .val (.int (-1 : Int32))] [])
          refine GoesW.step (fun _ k => XS.iload X53.here hx rfl (hb hby at_216) rfl k) ?_
          obtain ⟨T54, X54, e54, st54⟩ := callPure X53 hx hZ (y := (⟨"com/example/cartouche/cartouche/ControlCharactersIndexInPinLaw", "ctrl", "(C)Z"⟩ : MethodName)) hown (hw _ (List.mem_of_getElem? (i := 32) rfl)) (hw _ (List.mem_of_getElem? (i := 33) rfl)) (hw _ (List.mem_of_getElem? (i := 34) rfl)) (hw _ (List.mem_of_getElem? (i := 35) rfl)) (by decide) (W := 0) (argsL := [(.int c1)]) (rest := []) (r := (.int (f7 c1))) (fun _ _ _ q => q) (rm7 l Z a0 hw [] c1 h51 ) (by decide) (by decide) (by decide) (by decide) e53 (g := (mkF m 218 #[.val (.int p1), .val (.int p2), .val (.int p3), .val (.int (4 : Int32)), .val (.int c0), .val (.int c1), .val (.int c2), .val (.int c3), .val (.ref b45), .val (.int (-1 : Int32))] [(.int c1)])) rfl (by rw [hml]; rfl) (lenOf pd_0_2 rfl) rfl (by show 2 * 0 + _ ≤ _; exact Nat.le_of_eq rfl) (hb hby at_218)
          refine GoesW.step st54 ?_
          show GoesW p e below s _ _ _ T54 (mkF m 221 #[.val (.int p1), .val (.int p2), .val (.int p3), .val (.int (4 : Int32)), .val (.int c0), .val (.int c1), .val (.int c2), .val (.int c3), .val (.ref b45), .val (.int (-1 : Int32))] [(.int (f7 c1))])
          by_cases hc221 : (f7 c1) = (0 : Int32)
          · refine GoesW.step (fun _ k => XS.ifYes X54.here hx rfl (pc0 := 221) (pc' := 227) rfl (hb hby at_221) rfl ((if0 _ _).trans (teq hc221).1) (by decide) (by decide) k) ?_
            show GoesW p e below s _ _ _ T54 (mkF m 227 #[.val (.int p1), .val (.int p2), .val (.int p3), .val (.int (4 : Int32)), .val (.int c0), .val (.int c1), .val (.int c2), .val (.int c3), .val (.ref b45), .val (.int (-1 : Int32))] [])
            refine GoesW.step (fun _ k => XS.iloadN X54.here hx rfl (hb hby at_227) rfl k) ?_
            refine GoesW.step (fun _ k => XS.ifNo X54.here hx rfl (hb hby at_228) rfl ((if0 _ _).trans (tlt (by decide : (0 : Int32) < (4 : Int32))).2.2.2) k) ?_
            show GoesW p e below s _ _ _ T54 (mkF m 231 #[.val (.int p1), .val (.int p2), .val (.int p3), .val (.int (4 : Int32)), .val (.int c0), .val (.int c1), .val (.int c2), .val (.int c3), .val (.ref b45), .val (.int (-1 : Int32))] [])
            refine GoesW.step (fun _ k => XS.iload X54.here hx rfl (hb hby at_231) rfl k) ?_
            obtain ⟨T55, X55, e55, st55⟩ := callPure X54 hx hZ (y := (⟨"com/example/cartouche/cartouche/ControlCharactersIndexInPinLaw", "ctrl", "(C)Z"⟩ : MethodName)) hown (hw _ (List.mem_of_getElem? (i := 32) rfl)) (hw _ (List.mem_of_getElem? (i := 33) rfl)) (hw _ (List.mem_of_getElem? (i := 34) rfl)) (hw _ (List.mem_of_getElem? (i := 35) rfl)) (by decide) (W := 0) (argsL := [(.int c0)]) (rest := []) (r := (.int (f7 c0))) (fun _ _ _ q => q) (rm7 l Z a0 hw [] c0 h51 ) (by decide) (by decide) (by decide) (by decide) e54 (g := (mkF m 233 #[.val (.int p1), .val (.int p2), .val (.int p3), .val (.int (4 : Int32)), .val (.int c0), .val (.int c1), .val (.int c2), .val (.int c3), .val (.ref b45), .val (.int (-1 : Int32))] [(.int c0)])) rfl (by rw [hml]; rfl) (lenOf pd_0_2 rfl) rfl (by show 2 * 0 + _ ≤ _; exact Nat.le_of_eq rfl) (hb hby at_233)
            refine GoesW.step st55 ?_
            show GoesW p e below s _ _ _ T55 (mkF m 236 #[.val (.int p1), .val (.int p2), .val (.int p3), .val (.int (4 : Int32)), .val (.int c0), .val (.int c1), .val (.int c2), .val (.int c3), .val (.ref b45), .val (.int (-1 : Int32))] [(.int (f7 c0))])
            by_cases hc236 : (f7 c0) = (0 : Int32)
            · refine GoesW.step (fun _ k => XS.ifYes X55.here hx rfl (pc0 := 236) (pc' := 242) rfl (hb hby at_236) rfl ((if0 _ _).trans (teq hc236).1) (by decide) (by decide) k) ?_
              show GoesW p e below s _ _ _ T55 (mkF m 242 #[.val (.int p1), .val (.int p2), .val (.int p3), .val (.int (4 : Int32)), .val (.int c0), .val (.int c1), .val (.int c2), .val (.int c3), .val (.ref b45), .val (.int (-1 : Int32))] [])
              refine GoesW.step (fun _ k => XS.aload X55.here hx rfl (hb hby at_242) rfl rfl k) ?_
              obtain ⟨T56, X56, e56, st56⟩ := own_pure (r := some (.int (own_ix (fun i => f16 ((own_cs c0 c1 c2 c3) i)) 4 0))) (fun _ _ _ q => q) (callX X55 hx hZ (y := (⟨"com/example/cartouche/cartouche/ControlCharacters", "indexIn", "(Ljava/lang/String;)I"⟩ : MethodName)) hown (hw _ (List.mem_of_getElem? (i := 36) rfl)) (hw _ (List.mem_of_getElem? (i := 37) rfl)) (hw _ (List.mem_of_getElem? (i := 38) rfl)) (hw _ (List.mem_of_getElem? (i := 39) rfl)) (by decide) (W := 0) (argsL := [(.ref b45)]) (rest := []) (rm8n4 l Z a0 hw [] b45 G1 oF (own_cs c0 c1 c2 c3) h51 n0 z_51 O2 P3 (OL.keep K_51 all0) O4 O5 O6 O7 hT51) (by decide) (by decide) (by decide) (by decide) e55 (g := (mkF m 244 #[.val (.int p1), .val (.int p2), .val (.int p3), .val (.int (4 : Int32)), .val (.int c0), .val (.int c1), .val (.int c2), .val (.int c3), .val (.ref b45), .val (.int (-1 : Int32))] [(.ref b45)])) rfl (by rw [hml]; rfl) (lenOf pd_0_1 rfl) rfl (by show 2 * 0 + _ ≤ _; exact Nat.le_of_eq rfl) (hb hby at_244))
              refine GoesW.step st56 ?_
              show GoesW p e below s _ _ _ T56 (mkF m 247 #[.val (.int p1), .val (.int p2), .val (.int p3), .val (.int (4 : Int32)), .val (.int c0), .val (.int c1), .val (.int c2), .val (.int c3), .val (.ref b45), .val (.int (-1 : Int32))] [(.int (own_ix (fun i => f16 ((own_cs c0 c1 c2 c3) i)) 4 0))])
              refine GoesW.step (fun _ k => XS.iload X56.here hx rfl (hb hby at_247) rfl k) ?_
              refine GoesW.step (fun _ k => XS.icmpNo X56.here hx rfl (hb hby at_249) rfl (teq (by rw [own_x4]; simp [own_cs, own_same, hc189, hc205, hc221, hc236])).2 k) ?_
              show GoesW p e below s _ _ _ T56 (mkF m 252 #[.val (.int p1), .val (.int p2), .val (.int p3), .val (.int (4 : Int32)), .val (.int c0), .val (.int c1), .val (.int c2), .val (.int c3), .val (.ref b45), .val (.int (-1 : Int32))] [])
              refine GoesW.step (fun _ k => XS.iconst X56.here hx rfl (hb hby at_252) k) ?_
              refine GoesW.step (fun _ k => XS.goto X56.here hx rfl (pc0 := 253) (pc' := 257) rfl (hb hby at_253) (by decide) (by decide) k) ?_
              show GoesW p e below s _ _ _ T56 (mkF m 257 #[.val (.int p1), .val (.int p2), .val (.int p3), .val (.int (4 : Int32)), .val (.int c0), .val (.int c1), .val (.int c2), .val (.int c3), .val (.ref b45), .val (.int (-1 : Int32))] [(.int (1 : Int32))])
              exact GoesW.outN (s := s) (vm₁ := s.vm) X56 ((State.WarmedH.refl s).since 0) (Nat.zero_le _) hx hlk (t := .boolean) Bd.returns (by simp) (hb hby at_257) ⟨rfl, N_51⟩ (by decide) (by decide)
            · refine GoesW.step (fun _ k => XS.ifNo X55.here hx rfl (hb hby at_236) rfl ((if0 _ _).trans (feq hc236).1) k) ?_
              show GoesW p e below s _ _ _ T55 (mkF m 239 #[.val (.int p1), .val (.int p2), .val (.int p3), .val (.int (4 : Int32)), .val (.int c0), .val (.int c1), .val (.int c2), .val (.int c3), .val (.ref b45), .val (.int (-1 : Int32))] [])
              refine GoesW.step (fun _ k => XS.iconst X55.here hx rfl (hb hby at_239) k) ?_
              refine GoesW.step (fun _ k => XS.istore X55.here hx rfl (hb hby at_240) rfl (l' := #[.val (.int p1), .val (.int p2), .val (.int p3), .val (.int (4 : Int32)), .val (.int c0), .val (.int c1), .val (.int c2), .val (.int c3), .val (.ref b45), .val (.int (0 : Int32))]) rfl k) ?_
              refine GoesW.step (fun _ k => XS.aload X55.here hx rfl (hb hby at_242) rfl rfl k) ?_
              show GoesW p e below s _ _ _ T55 (mkF m 244 #[.val (.int p1), .val (.int p2), .val (.int p3), .val (.int (4 : Int32)), .val (.int c0), .val (.int c1), .val (.int c2), .val (.int c3), .val (.ref b45), .val (.int (0 : Int32))] [(.ref b45)])
              obtain ⟨T57, X57, e57, st57⟩ := own_pure (r := some (.int (own_ix (fun i => f16 ((own_cs c0 c1 c2 c3) i)) 4 0))) (fun _ _ _ q => q) (callX X55 hx hZ (y := (⟨"com/example/cartouche/cartouche/ControlCharacters", "indexIn", "(Ljava/lang/String;)I"⟩ : MethodName)) hown (hw _ (List.mem_of_getElem? (i := 36) rfl)) (hw _ (List.mem_of_getElem? (i := 37) rfl)) (hw _ (List.mem_of_getElem? (i := 38) rfl)) (hw _ (List.mem_of_getElem? (i := 39) rfl)) (by decide) (W := 0) (argsL := [(.ref b45)]) (rest := []) (rm8n4 l Z a0 hw [] b45 G1 oF (own_cs c0 c1 c2 c3) h51 n0 z_51 O2 P3 (OL.keep K_51 all0) O4 O5 O6 O7 hT51) (by decide) (by decide) (by decide) (by decide) e55 (g := (mkF m 244 #[.val (.int p1), .val (.int p2), .val (.int p3), .val (.int (4 : Int32)), .val (.int c0), .val (.int c1), .val (.int c2), .val (.int c3), .val (.ref b45), .val (.int (0 : Int32))] [(.ref b45)])) rfl (by rw [hml]; rfl) (lenOf pd_0_1 rfl) rfl (by show 2 * 0 + _ ≤ _; exact Nat.le_of_eq rfl) (hb hby at_244))
              refine GoesW.step st57 ?_
              show GoesW p e below s _ _ _ T57 (mkF m 247 #[.val (.int p1), .val (.int p2), .val (.int p3), .val (.int (4 : Int32)), .val (.int c0), .val (.int c1), .val (.int c2), .val (.int c3), .val (.ref b45), .val (.int (0 : Int32))] [(.int (own_ix (fun i => f16 ((own_cs c0 c1 c2 c3) i)) 4 0))])
              refine GoesW.step (fun _ k => XS.iload X57.here hx rfl (hb hby at_247) rfl k) ?_
              refine GoesW.step (fun _ k => XS.icmpNo X57.here hx rfl (hb hby at_249) rfl (teq (by rw [own_x4]; simp [own_cs, own_same, hc189, hc205, hc221, hc236])).2 k) ?_
              show GoesW p e below s _ _ _ T57 (mkF m 252 #[.val (.int p1), .val (.int p2), .val (.int p3), .val (.int (4 : Int32)), .val (.int c0), .val (.int c1), .val (.int c2), .val (.int c3), .val (.ref b45), .val (.int (0 : Int32))] [])
              refine GoesW.step (fun _ k => XS.iconst X57.here hx rfl (hb hby at_252) k) ?_
              refine GoesW.step (fun _ k => XS.goto X57.here hx rfl (pc0 := 253) (pc' := 257) rfl (hb hby at_253) (by decide) (by decide) k) ?_
              show GoesW p e below s _ _ _ T57 (mkF m 257 #[.val (.int p1), .val (.int p2), .val (.int p3), .val (.int (4 : Int32)), .val (.int c0), .val (.int c1), .val (.int c2), .val (.int c3), .val (.ref b45), .val (.int (0 : Int32))] [(.int (1 : Int32))])
              exact GoesW.outN (s := s) (vm₁ := s.vm) X57 ((State.WarmedH.refl s).since 0) (Nat.zero_le _) hx hlk (t := .boolean) Bd.returns (by simp) (hb hby at_257) ⟨rfl, N_51⟩ (by decide) (by decide)
          · refine GoesW.step (fun _ k => XS.ifNo X54.here hx rfl (hb hby at_221) rfl ((if0 _ _).trans (feq hc221).1) k) ?_
            show GoesW p e below s _ _ _ T54 (mkF m 224 #[.val (.int p1), .val (.int p2), .val (.int p3), .val (.int (4 : Int32)), .val (.int c0), .val (.int c1), .val (.int c2), .val (.int c3), .val (.ref b45), .val (.int (-1 : Int32))] [])
            refine GoesW.step (fun _ k => XS.iconst X54.here hx rfl (hb hby at_224) k) ?_
            refine GoesW.step (fun _ k => XS.istore X54.here hx rfl (hb hby at_225) rfl (l' := #[.val (.int p1), .val (.int p2), .val (.int p3), .val (.int (4 : Int32)), .val (.int c0), .val (.int c1), .val (.int c2), .val (.int c3), .val (.ref b45), .val (.int (1 : Int32))]) rfl k) ?_
            refine GoesW.step (fun _ k => XS.iloadN X54.here hx rfl (hb hby at_227) rfl k) ?_
            show GoesW p e below s _ _ _ T54 (mkF m 228 #[.val (.int p1), .val (.int p2), .val (.int p3), .val (.int (4 : Int32)), .val (.int c0), .val (.int c1), .val (.int c2), .val (.int c3), .val (.ref b45), .val (.int (1 : Int32))] [(.int (4 : Int32))])
            refine GoesW.step (fun _ k => XS.ifNo X54.here hx rfl (hb hby at_228) rfl ((if0 _ _).trans (tlt (by decide : (0 : Int32) < (4 : Int32))).2.2.2) k) ?_
            show GoesW p e below s _ _ _ T54 (mkF m 231 #[.val (.int p1), .val (.int p2), .val (.int p3), .val (.int (4 : Int32)), .val (.int c0), .val (.int c1), .val (.int c2), .val (.int c3), .val (.ref b45), .val (.int (1 : Int32))] [])
            refine GoesW.step (fun _ k => XS.iload X54.here hx rfl (hb hby at_231) rfl k) ?_
            obtain ⟨T58, X58, e58, st58⟩ := callPure X54 hx hZ (y := (⟨"com/example/cartouche/cartouche/ControlCharactersIndexInPinLaw", "ctrl", "(C)Z"⟩ : MethodName)) hown (hw _ (List.mem_of_getElem? (i := 32) rfl)) (hw _ (List.mem_of_getElem? (i := 33) rfl)) (hw _ (List.mem_of_getElem? (i := 34) rfl)) (hw _ (List.mem_of_getElem? (i := 35) rfl)) (by decide) (W := 0) (argsL := [(.int c0)]) (rest := []) (r := (.int (f7 c0))) (fun _ _ _ q => q) (rm7 l Z a0 hw [] c0 h51 ) (by decide) (by decide) (by decide) (by decide) e54 (g := (mkF m 233 #[.val (.int p1), .val (.int p2), .val (.int p3), .val (.int (4 : Int32)), .val (.int c0), .val (.int c1), .val (.int c2), .val (.int c3), .val (.ref b45), .val (.int (1 : Int32))] [(.int c0)])) rfl (by rw [hml]; rfl) (lenOf pd_0_2 rfl) rfl (by show 2 * 0 + _ ≤ _; exact Nat.le_of_eq rfl) (hb hby at_233)
            refine GoesW.step st58 ?_
            show GoesW p e below s _ _ _ T58 (mkF m 236 #[.val (.int p1), .val (.int p2), .val (.int p3), .val (.int (4 : Int32)), .val (.int c0), .val (.int c1), .val (.int c2), .val (.int c3), .val (.ref b45), .val (.int (1 : Int32))] [(.int (f7 c0))])
            by_cases hc236 : (f7 c0) = (0 : Int32)
            · refine GoesW.step (fun _ k => XS.ifYes X58.here hx rfl (pc0 := 236) (pc' := 242) rfl (hb hby at_236) rfl ((if0 _ _).trans (teq hc236).1) (by decide) (by decide) k) ?_
              show GoesW p e below s _ _ _ T58 (mkF m 242 #[.val (.int p1), .val (.int p2), .val (.int p3), .val (.int (4 : Int32)), .val (.int c0), .val (.int c1), .val (.int c2), .val (.int c3), .val (.ref b45), .val (.int (1 : Int32))] [])
              refine GoesW.step (fun _ k => XS.aload X58.here hx rfl (hb hby at_242) rfl rfl k) ?_
              obtain ⟨T59, X59, e59, st59⟩ := own_pure (r := some (.int (own_ix (fun i => f16 ((own_cs c0 c1 c2 c3) i)) 4 0))) (fun _ _ _ q => q) (callX X58 hx hZ (y := (⟨"com/example/cartouche/cartouche/ControlCharacters", "indexIn", "(Ljava/lang/String;)I"⟩ : MethodName)) hown (hw _ (List.mem_of_getElem? (i := 36) rfl)) (hw _ (List.mem_of_getElem? (i := 37) rfl)) (hw _ (List.mem_of_getElem? (i := 38) rfl)) (hw _ (List.mem_of_getElem? (i := 39) rfl)) (by decide) (W := 0) (argsL := [(.ref b45)]) (rest := []) (rm8n4 l Z a0 hw [] b45 G1 oF (own_cs c0 c1 c2 c3) h51 n0 z_51 O2 P3 (OL.keep K_51 all0) O4 O5 O6 O7 hT51) (by decide) (by decide) (by decide) (by decide) e58 (g := (mkF m 244 #[.val (.int p1), .val (.int p2), .val (.int p3), .val (.int (4 : Int32)), .val (.int c0), .val (.int c1), .val (.int c2), .val (.int c3), .val (.ref b45), .val (.int (1 : Int32))] [(.ref b45)])) rfl (by rw [hml]; rfl) (lenOf pd_0_1 rfl) rfl (by show 2 * 0 + _ ≤ _; exact Nat.le_of_eq rfl) (hb hby at_244))
              refine GoesW.step st59 ?_
              show GoesW p e below s _ _ _ T59 (mkF m 247 #[.val (.int p1), .val (.int p2), .val (.int p3), .val (.int (4 : Int32)), .val (.int c0), .val (.int c1), .val (.int c2), .val (.int c3), .val (.ref b45), .val (.int (1 : Int32))] [(.int (own_ix (fun i => f16 ((own_cs c0 c1 c2 c3) i)) 4 0))])
              refine GoesW.step (fun _ k => XS.iload X59.here hx rfl (hb hby at_247) rfl k) ?_
              refine GoesW.step (fun _ k => XS.icmpNo X59.here hx rfl (hb hby at_249) rfl (teq (by rw [own_x4]; simp [own_cs, own_same, hc189, hc205, hc221, hc236])).2 k) ?_
              show GoesW p e below s _ _ _ T59 (mkF m 252 #[.val (.int p1), .val (.int p2), .val (.int p3), .val (.int (4 : Int32)), .val (.int c0), .val (.int c1), .val (.int c2), .val (.int c3), .val (.ref b45), .val (.int (1 : Int32))] [])
              refine GoesW.step (fun _ k => XS.iconst X59.here hx rfl (hb hby at_252) k) ?_
              refine GoesW.step (fun _ k => XS.goto X59.here hx rfl (pc0 := 253) (pc' := 257) rfl (hb hby at_253) (by decide) (by decide) k) ?_
              show GoesW p e below s _ _ _ T59 (mkF m 257 #[.val (.int p1), .val (.int p2), .val (.int p3), .val (.int (4 : Int32)), .val (.int c0), .val (.int c1), .val (.int c2), .val (.int c3), .val (.ref b45), .val (.int (1 : Int32))] [(.int (1 : Int32))])
              exact GoesW.outN (s := s) (vm₁ := s.vm) X59 ((State.WarmedH.refl s).since 0) (Nat.zero_le _) hx hlk (t := .boolean) Bd.returns (by simp) (hb hby at_257) ⟨rfl, N_51⟩ (by decide) (by decide)
            · refine GoesW.step (fun _ k => XS.ifNo X58.here hx rfl (hb hby at_236) rfl ((if0 _ _).trans (feq hc236).1) k) ?_
              show GoesW p e below s _ _ _ T58 (mkF m 239 #[.val (.int p1), .val (.int p2), .val (.int p3), .val (.int (4 : Int32)), .val (.int c0), .val (.int c1), .val (.int c2), .val (.int c3), .val (.ref b45), .val (.int (1 : Int32))] [])
              refine GoesW.step (fun _ k => XS.iconst X58.here hx rfl (hb hby at_239) k) ?_
              refine GoesW.step (fun _ k => XS.istore X58.here hx rfl (hb hby at_240) rfl (l' := #[.val (.int p1), .val (.int p2), .val (.int p3), .val (.int (4 : Int32)), .val (.int c0), .val (.int c1), .val (.int c2), .val (.int c3), .val (.ref b45), .val (.int (0 : Int32))]) rfl k) ?_
              refine GoesW.step (fun _ k => XS.aload X58.here hx rfl (hb hby at_242) rfl rfl k) ?_
              show GoesW p e below s _ _ _ T58 (mkF m 244 #[.val (.int p1), .val (.int p2), .val (.int p3), .val (.int (4 : Int32)), .val (.int c0), .val (.int c1), .val (.int c2), .val (.int c3), .val (.ref b45), .val (.int (0 : Int32))] [(.ref b45)])
              obtain ⟨T60, X60, e60, st60⟩ := own_pure (r := some (.int (own_ix (fun i => f16 ((own_cs c0 c1 c2 c3) i)) 4 0))) (fun _ _ _ q => q) (callX X58 hx hZ (y := (⟨"com/example/cartouche/cartouche/ControlCharacters", "indexIn", "(Ljava/lang/String;)I"⟩ : MethodName)) hown (hw _ (List.mem_of_getElem? (i := 36) rfl)) (hw _ (List.mem_of_getElem? (i := 37) rfl)) (hw _ (List.mem_of_getElem? (i := 38) rfl)) (hw _ (List.mem_of_getElem? (i := 39) rfl)) (by decide) (W := 0) (argsL := [(.ref b45)]) (rest := []) (rm8n4 l Z a0 hw [] b45 G1 oF (own_cs c0 c1 c2 c3) h51 n0 z_51 O2 P3 (OL.keep K_51 all0) O4 O5 O6 O7 hT51) (by decide) (by decide) (by decide) (by decide) e58 (g := (mkF m 244 #[.val (.int p1), .val (.int p2), .val (.int p3), .val (.int (4 : Int32)), .val (.int c0), .val (.int c1), .val (.int c2), .val (.int c3), .val (.ref b45), .val (.int (0 : Int32))] [(.ref b45)])) rfl (by rw [hml]; rfl) (lenOf pd_0_1 rfl) rfl (by show 2 * 0 + _ ≤ _; exact Nat.le_of_eq rfl) (hb hby at_244))
              refine GoesW.step st60 ?_
              show GoesW p e below s _ _ _ T60 (mkF m 247 #[.val (.int p1), .val (.int p2), .val (.int p3), .val (.int (4 : Int32)), .val (.int c0), .val (.int c1), .val (.int c2), .val (.int c3), .val (.ref b45), .val (.int (0 : Int32))] [(.int (own_ix (fun i => f16 ((own_cs c0 c1 c2 c3) i)) 4 0))])
              refine GoesW.step (fun _ k => XS.iload X60.here hx rfl (hb hby at_247) rfl k) ?_
              refine GoesW.step (fun _ k => XS.icmpNo X60.here hx rfl (hb hby at_249) rfl (teq (by rw [own_x4]; simp [own_cs, own_same, hc189, hc205, hc221, hc236])).2 k) ?_
              show GoesW p e below s _ _ _ T60 (mkF m 252 #[.val (.int p1), .val (.int p2), .val (.int p3), .val (.int (4 : Int32)), .val (.int c0), .val (.int c1), .val (.int c2), .val (.int c3), .val (.ref b45), .val (.int (0 : Int32))] [])
              refine GoesW.step (fun _ k => XS.iconst X60.here hx rfl (hb hby at_252) k) ?_
              refine GoesW.step (fun _ k => XS.goto X60.here hx rfl (pc0 := 253) (pc' := 257) rfl (hb hby at_253) (by decide) (by decide) k) ?_
              show GoesW p e below s _ _ _ T60 (mkF m 257 #[.val (.int p1), .val (.int p2), .val (.int p3), .val (.int (4 : Int32)), .val (.int c0), .val (.int c1), .val (.int c2), .val (.int c3), .val (.ref b45), .val (.int (0 : Int32))] [(.int (1 : Int32))])
              exact GoesW.outN (s := s) (vm₁ := s.vm) X60 ((State.WarmedH.refl s).since 0) (Nat.zero_le _) hx hlk (t := .boolean) Bd.returns (by simp) (hb hby at_257) ⟨rfl, N_51⟩ (by decide) (by decide)
        · refine GoesW.step (fun _ k => XS.ifNo X53.here hx rfl (hb hby at_205) rfl ((if0 _ _).trans (feq hc205).1) k) ?_
          show GoesW p e below s _ _ _ T53 (mkF m 208 #[.val (.int p1), .val (.int p2), .val (.int p3), .val (.int (4 : Int32)), .val (.int c0), .val (.int c1), .val (.int c2), .val (.int c3), .val (.ref b45), .val (.int (-1 : Int32))] [])
          refine GoesW.step (fun _ k => XS.iconst X53.here hx rfl (hb hby at_208) k) ?_
          refine GoesW.step (fun _ k => XS.istore X53.here hx rfl (hb hby at_209) rfl (l' := #[.val (.int p1), .val (.int p2), .val (.int p3), .val (.int (4 : Int32)), .val (.int c0), .val (.int c1), .val (.int c2), .val (.int c3), .val (.ref b45), .val (.int (2 : Int32))]) rfl k) ?_
          refine GoesW.step (fun _ k => XS.iloadN X53.here hx rfl (hb hby at_211) rfl k) ?_
          show GoesW p e below s _ _ _ T53 (mkF m 212 #[.val (.int p1), .val (.int p2), .val (.int p3), .val (.int (4 : Int32)), .val (.int c0), .val (.int c1), .val (.int c2), .val (.int c3), .val (.ref b45), .val (.int (2 : Int32))] [(.int (4 : Int32))])
          refine GoesW.step (fun _ k => XS.iconst X53.here hx rfl (hb hby at_212) k) ?_
          refine GoesW.step (fun _ k => XS.icmpNo X53.here hx rfl (hb hby at_213) rfl (tlt (by decide : (1 : Int32) < (4 : Int32))).2.2.2 k) ?_
          show GoesW p e below s _ _ _ T53 (mkF m 216 #[.val (.int p1), .val (.int p2), .val (.int p3), .val (.int (4 : Int32)), .val (.int c0), .val (.int c1), .val (.int c2), .val (.int c3), .val (.ref b45), .val (.int (2 : Int32))] [])
          refine GoesW.step (fun _ k => XS.iload X53.here hx rfl (hb hby at_216) rfl k) ?_
          obtain ⟨T61, X61, e61, st61⟩ := callPure X53 hx hZ (y := (⟨"com/example/cartouche/cartouche/ControlCharactersIndexInPinLaw", "ctrl", "(C)Z"⟩ : MethodName)) hown (hw _ (List.mem_of_getElem? (i := 32) rfl)) (hw _ (List.mem_of_getElem? (i := 33) rfl)) (hw _ (List.mem_of_getElem? (i := 34) rfl)) (hw _ (List.mem_of_getElem? (i := 35) rfl)) (by decide) (W := 0) (argsL := [(.int c1)]) (rest := []) (r := (.int (f7 c1))) (fun _ _ _ q => q) (rm7 l Z a0 hw [] c1 h51 ) (by decide) (by decide) (by decide) (by decide) e53 (g := (mkF m 218 #[.val (.int p1), .val (.int p2), .val (.int p3), .val (.int (4 : Int32)), .val (.int c0), .val (.int c1), .val (.int c2), .val (.int c3), .val (.ref b45), .val (.int (2 : Int32))] [(.int c1)])) rfl (by rw [hml]; rfl) (lenOf pd_0_2 rfl) rfl (by show 2 * 0 + _ ≤ _; exact Nat.le_of_eq rfl) (hb hby at_218)
          refine GoesW.step st61 ?_
          show GoesW p e below s _ _ _ T61 (mkF m 221 #[.val (.int p1), .val (.int p2), .val (.int p3), .val (.int (4 : Int32)), .val (.int c0), .val (.int c1), .val (.int c2), .val (.int c3), .val (.ref b45), .val (.int (2 : Int32))] [(.int (f7 c1))])
          by_cases hc221 : (f7 c1) = (0 : Int32)
          · refine GoesW.step (fun _ k => XS.ifYes X61.here hx rfl (pc0 := 221) (pc' := 227) rfl (hb hby at_221) rfl ((if0 _ _).trans (teq hc221).1) (by decide) (by decide) k) ?_
            show GoesW p e below s _ _ _ T61 (mkF m 227 #[.val (.int p1), .val (.int p2), .val (.int p3), .val (.int (4 : Int32)), .val (.int c0), .val (.int c1), .val (.int c2), .val (.int c3), .val (.ref b45), .val (.int (2 : Int32))] [])
            refine GoesW.step (fun _ k => XS.iloadN X61.here hx rfl (hb hby at_227) rfl k) ?_
            refine GoesW.step (fun _ k => XS.ifNo X61.here hx rfl (hb hby at_228) rfl ((if0 _ _).trans (tlt (by decide : (0 : Int32) < (4 : Int32))).2.2.2) k) ?_
            show GoesW p e below s _ _ _ T61 (mkF m 231 #[.val (.int p1), .val (.int p2), .val (.int p3), .val (.int (4 : Int32)), .val (.int c0), .val (.int c1), .val (.int c2), .val (.int c3), .val (.ref b45), .val (.int (2 : Int32))] [])
            refine GoesW.step (fun _ k => XS.iload X61.here hx rfl (hb hby at_231) rfl k) ?_
            obtain ⟨T62, X62, e62, st62⟩ := callPure X61 hx hZ (y := (⟨"com/example/cartouche/cartouche/ControlCharactersIndexInPinLaw", "ctrl", "(C)Z"⟩ : MethodName)) hown (hw _ (List.mem_of_getElem? (i := 32) rfl)) (hw _ (List.mem_of_getElem? (i := 33) rfl)) (hw _ (List.mem_of_getElem? (i := 34) rfl)) (hw _ (List.mem_of_getElem? (i := 35) rfl)) (by decide) (W := 0) (argsL := [(.int c0)]) (rest := []) (r := (.int (f7 c0))) (fun _ _ _ q => q) (rm7 l Z a0 hw [] c0 h51 ) (by decide) (by decide) (by decide) (by decide) e61 (g := (mkF m 233 #[.val (.int p1), .val (.int p2), .val (.int p3), .val (.int (4 : Int32)), .val (.int c0), .val (.int c1), .val (.int c2), .val (.int c3), .val (.ref b45), .val (.int (2 : Int32))] [(.int c0)])) rfl (by rw [hml]; rfl) (lenOf pd_0_2 rfl) rfl (by show 2 * 0 + _ ≤ _; exact Nat.le_of_eq rfl) (hb hby at_233)
            refine GoesW.step st62 ?_
            show GoesW p e below s _ _ _ T62 (mkF m 236 #[.val (.int p1), .val (.int p2), .val (.int p3), .val (.int (4 : Int32)), .val (.int c0), .val (.int c1), .val (.int c2), .val (.int c3), .val (.ref b45), .val (.int (2 : Int32))] [(.int (f7 c0))])
            by_cases hc236 : (f7 c0) = (0 : Int32)
            · refine GoesW.step (fun _ k => XS.ifYes X62.here hx rfl (pc0 := 236) (pc' := 242) rfl (hb hby at_236) rfl ((if0 _ _).trans (teq hc236).1) (by decide) (by decide) k) ?_
              show GoesW p e below s _ _ _ T62 (mkF m 242 #[.val (.int p1), .val (.int p2), .val (.int p3), .val (.int (4 : Int32)), .val (.int c0), .val (.int c1), .val (.int c2), .val (.int c3), .val (.ref b45), .val (.int (2 : Int32))] [])
              refine GoesW.step (fun _ k => XS.aload X62.here hx rfl (hb hby at_242) rfl rfl k) ?_
              obtain ⟨T63, X63, e63, st63⟩ := own_pure (r := some (.int (own_ix (fun i => f16 ((own_cs c0 c1 c2 c3) i)) 4 0))) (fun _ _ _ q => q) (callX X62 hx hZ (y := (⟨"com/example/cartouche/cartouche/ControlCharacters", "indexIn", "(Ljava/lang/String;)I"⟩ : MethodName)) hown (hw _ (List.mem_of_getElem? (i := 36) rfl)) (hw _ (List.mem_of_getElem? (i := 37) rfl)) (hw _ (List.mem_of_getElem? (i := 38) rfl)) (hw _ (List.mem_of_getElem? (i := 39) rfl)) (by decide) (W := 0) (argsL := [(.ref b45)]) (rest := []) (rm8n4 l Z a0 hw [] b45 G1 oF (own_cs c0 c1 c2 c3) h51 n0 z_51 O2 P3 (OL.keep K_51 all0) O4 O5 O6 O7 hT51) (by decide) (by decide) (by decide) (by decide) e62 (g := (mkF m 244 #[.val (.int p1), .val (.int p2), .val (.int p3), .val (.int (4 : Int32)), .val (.int c0), .val (.int c1), .val (.int c2), .val (.int c3), .val (.ref b45), .val (.int (2 : Int32))] [(.ref b45)])) rfl (by rw [hml]; rfl) (lenOf pd_0_1 rfl) rfl (by show 2 * 0 + _ ≤ _; exact Nat.le_of_eq rfl) (hb hby at_244))
              refine GoesW.step st63 ?_
              show GoesW p e below s _ _ _ T63 (mkF m 247 #[.val (.int p1), .val (.int p2), .val (.int p3), .val (.int (4 : Int32)), .val (.int c0), .val (.int c1), .val (.int c2), .val (.int c3), .val (.ref b45), .val (.int (2 : Int32))] [(.int (own_ix (fun i => f16 ((own_cs c0 c1 c2 c3) i)) 4 0))])
              refine GoesW.step (fun _ k => XS.iload X63.here hx rfl (hb hby at_247) rfl k) ?_
              refine GoesW.step (fun _ k => XS.icmpNo X63.here hx rfl (hb hby at_249) rfl (teq (by rw [own_x4]; simp [own_cs, own_same, hc189, hc205, hc221, hc236])).2 k) ?_
              show GoesW p e below s _ _ _ T63 (mkF m 252 #[.val (.int p1), .val (.int p2), .val (.int p3), .val (.int (4 : Int32)), .val (.int c0), .val (.int c1), .val (.int c2), .val (.int c3), .val (.ref b45), .val (.int (2 : Int32))] [])
              refine GoesW.step (fun _ k => XS.iconst X63.here hx rfl (hb hby at_252) k) ?_
              refine GoesW.step (fun _ k => XS.goto X63.here hx rfl (pc0 := 253) (pc' := 257) rfl (hb hby at_253) (by decide) (by decide) k) ?_
              show GoesW p e below s _ _ _ T63 (mkF m 257 #[.val (.int p1), .val (.int p2), .val (.int p3), .val (.int (4 : Int32)), .val (.int c0), .val (.int c1), .val (.int c2), .val (.int c3), .val (.ref b45), .val (.int (2 : Int32))] [(.int (1 : Int32))])
              exact GoesW.outN (s := s) (vm₁ := s.vm) X63 ((State.WarmedH.refl s).since 0) (Nat.zero_le _) hx hlk (t := .boolean) Bd.returns (by simp) (hb hby at_257) ⟨rfl, N_51⟩ (by decide) (by decide)
            · refine GoesW.step (fun _ k => XS.ifNo X62.here hx rfl (hb hby at_236) rfl ((if0 _ _).trans (feq hc236).1) k) ?_
              show GoesW p e below s _ _ _ T62 (mkF m 239 #[.val (.int p1), .val (.int p2), .val (.int p3), .val (.int (4 : Int32)), .val (.int c0), .val (.int c1), .val (.int c2), .val (.int c3), .val (.ref b45), .val (.int (2 : Int32))] [])
              refine GoesW.step (fun _ k => XS.iconst X62.here hx rfl (hb hby at_239) k) ?_
              refine GoesW.step (fun _ k => XS.istore X62.here hx rfl (hb hby at_240) rfl (l' := #[.val (.int p1), .val (.int p2), .val (.int p3), .val (.int (4 : Int32)), .val (.int c0), .val (.int c1), .val (.int c2), .val (.int c3), .val (.ref b45), .val (.int (0 : Int32))]) rfl k) ?_
              refine GoesW.step (fun _ k => XS.aload X62.here hx rfl (hb hby at_242) rfl rfl k) ?_
              show GoesW p e below s _ _ _ T62 (mkF m 244 #[.val (.int p1), .val (.int p2), .val (.int p3), .val (.int (4 : Int32)), .val (.int c0), .val (.int c1), .val (.int c2), .val (.int c3), .val (.ref b45), .val (.int (0 : Int32))] [(.ref b45)])
              obtain ⟨T64, X64, e64, st64⟩ := own_pure (r := some (.int (own_ix (fun i => f16 ((own_cs c0 c1 c2 c3) i)) 4 0))) (fun _ _ _ q => q) (callX X62 hx hZ (y := (⟨"com/example/cartouche/cartouche/ControlCharacters", "indexIn", "(Ljava/lang/String;)I"⟩ : MethodName)) hown (hw _ (List.mem_of_getElem? (i := 36) rfl)) (hw _ (List.mem_of_getElem? (i := 37) rfl)) (hw _ (List.mem_of_getElem? (i := 38) rfl)) (hw _ (List.mem_of_getElem? (i := 39) rfl)) (by decide) (W := 0) (argsL := [(.ref b45)]) (rest := []) (rm8n4 l Z a0 hw [] b45 G1 oF (own_cs c0 c1 c2 c3) h51 n0 z_51 O2 P3 (OL.keep K_51 all0) O4 O5 O6 O7 hT51) (by decide) (by decide) (by decide) (by decide) e62 (g := (mkF m 244 #[.val (.int p1), .val (.int p2), .val (.int p3), .val (.int (4 : Int32)), .val (.int c0), .val (.int c1), .val (.int c2), .val (.int c3), .val (.ref b45), .val (.int (0 : Int32))] [(.ref b45)])) rfl (by rw [hml]; rfl) (lenOf pd_0_1 rfl) rfl (by show 2 * 0 + _ ≤ _; exact Nat.le_of_eq rfl) (hb hby at_244))
              refine GoesW.step st64 ?_
              show GoesW p e below s _ _ _ T64 (mkF m 247 #[.val (.int p1), .val (.int p2), .val (.int p3), .val (.int (4 : Int32)), .val (.int c0), .val (.int c1), .val (.int c2), .val (.int c3), .val (.ref b45), .val (.int (0 : Int32))] [(.int (own_ix (fun i => f16 ((own_cs c0 c1 c2 c3) i)) 4 0))])
              refine GoesW.step (fun _ k => XS.iload X64.here hx rfl (hb hby at_247) rfl k) ?_
              refine GoesW.step (fun _ k => XS.icmpNo X64.here hx rfl (hb hby at_249) rfl (teq (by rw [own_x4]; simp [own_cs, own_same, hc189, hc205, hc221, hc236])).2 k) ?_
              show GoesW p e below s _ _ _ T64 (mkF m 252 #[.val (.int p1), .val (.int p2), .val (.int p3), .val (.int (4 : Int32)), .val (.int c0), .val (.int c1), .val (.int c2), .val (.int c3), .val (.ref b45), .val (.int (0 : Int32))] [])
              refine GoesW.step (fun _ k => XS.iconst X64.here hx rfl (hb hby at_252) k) ?_
              refine GoesW.step (fun _ k => XS.goto X64.here hx rfl (pc0 := 253) (pc' := 257) rfl (hb hby at_253) (by decide) (by decide) k) ?_
              show GoesW p e below s _ _ _ T64 (mkF m 257 #[.val (.int p1), .val (.int p2), .val (.int p3), .val (.int (4 : Int32)), .val (.int c0), .val (.int c1), .val (.int c2), .val (.int c3), .val (.ref b45), .val (.int (0 : Int32))] [(.int (1 : Int32))])
              exact GoesW.outN (s := s) (vm₁ := s.vm) X64 ((State.WarmedH.refl s).since 0) (Nat.zero_le _) hx hlk (t := .boolean) Bd.returns (by simp) (hb hby at_257) ⟨rfl, N_51⟩ (by decide) (by decide)
          · refine GoesW.step (fun _ k => XS.ifNo X61.here hx rfl (hb hby at_221) rfl ((if0 _ _).trans (feq hc221).1) k) ?_
            show GoesW p e below s _ _ _ T61 (mkF m 224 #[.val (.int p1), .val (.int p2), .val (.int p3), .val (.int (4 : Int32)), .val (.int c0), .val (.int c1), .val (.int c2), .val (.int c3), .val (.ref b45), .val (.int (2 : Int32))] [])
            refine GoesW.step (fun _ k => XS.iconst X61.here hx rfl (hb hby at_224) k) ?_
            refine GoesW.step (fun _ k => XS.istore X61.here hx rfl (hb hby at_225) rfl (l' := #[.val (.int p1), .val (.int p2), .val (.int p3), .val (.int (4 : Int32)), .val (.int c0), .val (.int c1), .val (.int c2), .val (.int c3), .val (.ref b45), .val (.int (1 : Int32))]) rfl k) ?_
            refine GoesW.step (fun _ k => XS.iloadN X61.here hx rfl (hb hby at_227) rfl k) ?_
            show GoesW p e below s _ _ _ T61 (mkF m 228 #[.val (.int p1), .val (.int p2), .val (.int p3), .val (.int (4 : Int32)), .val (.int c0), .val (.int c1), .val (.int c2), .val (.int c3), .val (.ref b45), .val (.int (1 : Int32))] [(.int (4 : Int32))])
            refine GoesW.step (fun _ k => XS.ifNo X61.here hx rfl (hb hby at_228) rfl ((if0 _ _).trans (tlt (by decide : (0 : Int32) < (4 : Int32))).2.2.2) k) ?_
            show GoesW p e below s _ _ _ T61 (mkF m 231 #[.val (.int p1), .val (.int p2), .val (.int p3), .val (.int (4 : Int32)), .val (.int c0), .val (.int c1), .val (.int c2), .val (.int c3), .val (.ref b45), .val (.int (1 : Int32))] [])
            refine GoesW.step (fun _ k => XS.iload X61.here hx rfl (hb hby at_231) rfl k) ?_
            obtain ⟨T65, X65, e65, st65⟩ := callPure X61 hx hZ (y := (⟨"com/example/cartouche/cartouche/ControlCharactersIndexInPinLaw", "ctrl", "(C)Z"⟩ : MethodName)) hown (hw _ (List.mem_of_getElem? (i := 32) rfl)) (hw _ (List.mem_of_getElem? (i := 33) rfl)) (hw _ (List.mem_of_getElem? (i := 34) rfl)) (hw _ (List.mem_of_getElem? (i := 35) rfl)) (by decide) (W := 0) (argsL := [(.int c0)]) (rest := []) (r := (.int (f7 c0))) (fun _ _ _ q => q) (rm7 l Z a0 hw [] c0 h51 ) (by decide) (by decide) (by decide) (by decide) e61 (g := (mkF m 233 #[.val (.int p1), .val (.int p2), .val (.int p3), .val (.int (4 : Int32)), .val (.int c0), .val (.int c1), .val (.int c2), .val (.int c3), .val (.ref b45), .val (.int (1 : Int32))] [(.int c0)])) rfl (by rw [hml]; rfl) (lenOf pd_0_2 rfl) rfl (by show 2 * 0 + _ ≤ _; exact Nat.le_of_eq rfl) (hb hby at_233)
            refine GoesW.step st65 ?_
            show GoesW p e below s _ _ _ T65 (mkF m 236 #[.val (.int p1), .val (.int p2), .val (.int p3), .val (.int (4 : Int32)), .val (.int c0), .val (.int c1), .val (.int c2), .val (.int c3), .val (.ref b45), .val (.int (1 : Int32))] [(.int (f7 c0))])
            by_cases hc236 : (f7 c0) = (0 : Int32)
            · refine GoesW.step (fun _ k => XS.ifYes X65.here hx rfl (pc0 := 236) (pc' := 242) rfl (hb hby at_236) rfl ((if0 _ _).trans (teq hc236).1) (by decide) (by decide) k) ?_
              show GoesW p e below s _ _ _ T65 (mkF m 242 #[.val (.int p1), .val (.int p2), .val (.int p3), .val (.int (4 : Int32)), .val (.int c0), .val (.int c1), .val (.int c2), .val (.int c3), .val (.ref b45), .val (.int (1 : Int32))] [])
              refine GoesW.step (fun _ k => XS.aload X65.here hx rfl (hb hby at_242) rfl rfl k) ?_
              obtain ⟨T66, X66, e66, st66⟩ := own_pure (r := some (.int (own_ix (fun i => f16 ((own_cs c0 c1 c2 c3) i)) 4 0))) (fun _ _ _ q => q) (callX X65 hx hZ (y := (⟨"com/example/cartouche/cartouche/ControlCharacters", "indexIn", "(Ljava/lang/String;)I"⟩ : MethodName)) hown (hw _ (List.mem_of_getElem? (i := 36) rfl)) (hw _ (List.mem_of_getElem? (i := 37) rfl)) (hw _ (List.mem_of_getElem? (i := 38) rfl)) (hw _ (List.mem_of_getElem? (i := 39) rfl)) (by decide) (W := 0) (argsL := [(.ref b45)]) (rest := []) (rm8n4 l Z a0 hw [] b45 G1 oF (own_cs c0 c1 c2 c3) h51 n0 z_51 O2 P3 (OL.keep K_51 all0) O4 O5 O6 O7 hT51) (by decide) (by decide) (by decide) (by decide) e65 (g := (mkF m 244 #[.val (.int p1), .val (.int p2), .val (.int p3), .val (.int (4 : Int32)), .val (.int c0), .val (.int c1), .val (.int c2), .val (.int c3), .val (.ref b45), .val (.int (1 : Int32))] [(.ref b45)])) rfl (by rw [hml]; rfl) (lenOf pd_0_1 rfl) rfl (by show 2 * 0 + _ ≤ _; exact Nat.le_of_eq rfl) (hb hby at_244))
              refine GoesW.step st66 ?_
              show GoesW p e below s _ _ _ T66 (mkF m 247 #[.val (.int p1), .val (.int p2), .val (.int p3), .val (.int (4 : Int32)), .val (.int c0), .val (.int c1), .val (.int c2), .val (.int c3), .val (.ref b45), .val (.int (1 : Int32))] [(.int (own_ix (fun i => f16 ((own_cs c0 c1 c2 c3) i)) 4 0))])
              refine GoesW.step (fun _ k => XS.iload X66.here hx rfl (hb hby at_247) rfl k) ?_
              refine GoesW.step (fun _ k => XS.icmpNo X66.here hx rfl (hb hby at_249) rfl (teq (by rw [own_x4]; simp [own_cs, own_same, hc189, hc205, hc221, hc236])).2 k) ?_
              show GoesW p e below s _ _ _ T66 (mkF m 252 #[.val (.int p1), .val (.int p2), .val (.int p3), .val (.int (4 : Int32)), .val (.int c0), .val (.int c1), .val (.int c2), .val (.int c3), .val (.ref b45), .val (.int (1 : Int32))] [])
              refine GoesW.step (fun _ k => XS.iconst X66.here hx rfl (hb hby at_252) k) ?_
              refine GoesW.step (fun _ k => XS.goto X66.here hx rfl (pc0 := 253) (pc' := 257) rfl (hb hby at_253) (by decide) (by decide) k) ?_
              show GoesW p e below s _ _ _ T66 (mkF m 257 #[.val (.int p1), .val (.int p2), .val (.int p3), .val (.int (4 : Int32)), .val (.int c0), .val (.int c1), .val (.int c2), .val (.int c3), .val (.ref b45), .val (.int (1 : Int32))] [(.int (1 : Int32))])
              exact GoesW.outN (s := s) (vm₁ := s.vm) X66 ((State.WarmedH.refl s).since 0) (Nat.zero_le _) hx hlk (t := .boolean) Bd.returns (by simp) (hb hby at_257) ⟨rfl, N_51⟩ (by decide) (by decide)
            · refine GoesW.step (fun _ k => XS.ifNo X65.here hx rfl (hb hby at_236) rfl ((if0 _ _).trans (feq hc236).1) k) ?_
              show GoesW p e below s _ _ _ T65 (mkF m 239 #[.val (.int p1), .val (.int p2), .val (.int p3), .val (.int (4 : Int32)), .val (.int c0), .val (.int c1), .val (.int c2), .val (.int c3), .val (.ref b45), .val (.int (1 : Int32))] [])
              refine GoesW.step (fun _ k => XS.iconst X65.here hx rfl (hb hby at_239) k) ?_
              refine GoesW.step (fun _ k => XS.istore X65.here hx rfl (hb hby at_240) rfl (l' := #[.val (.int p1), .val (.int p2), .val (.int p3), .val (.int (4 : Int32)), .val (.int c0), .val (.int c1), .val (.int c2), .val (.int c3), .val (.ref b45), .val (.int (0 : Int32))]) rfl k) ?_
              refine GoesW.step (fun _ k => XS.aload X65.here hx rfl (hb hby at_242) rfl rfl k) ?_
              show GoesW p e below s _ _ _ T65 (mkF m 244 #[.val (.int p1), .val (.int p2), .val (.int p3), .val (.int (4 : Int32)), .val (.int c0), .val (.int c1), .val (.int c2), .val (.int c3), .val (.ref b45), .val (.int (0 : Int32))] [(.ref b45)])
              obtain ⟨T67, X67, e67, st67⟩ := own_pure (r := some (.int (own_ix (fun i => f16 ((own_cs c0 c1 c2 c3) i)) 4 0))) (fun _ _ _ q => q) (callX X65 hx hZ (y := (⟨"com/example/cartouche/cartouche/ControlCharacters", "indexIn", "(Ljava/lang/String;)I"⟩ : MethodName)) hown (hw _ (List.mem_of_getElem? (i := 36) rfl)) (hw _ (List.mem_of_getElem? (i := 37) rfl)) (hw _ (List.mem_of_getElem? (i := 38) rfl)) (hw _ (List.mem_of_getElem? (i := 39) rfl)) (by decide) (W := 0) (argsL := [(.ref b45)]) (rest := []) (rm8n4 l Z a0 hw [] b45 G1 oF (own_cs c0 c1 c2 c3) h51 n0 z_51 O2 P3 (OL.keep K_51 all0) O4 O5 O6 O7 hT51) (by decide) (by decide) (by decide) (by decide) e65 (g := (mkF m 244 #[.val (.int p1), .val (.int p2), .val (.int p3), .val (.int (4 : Int32)), .val (.int c0), .val (.int c1), .val (.int c2), .val (.int c3), .val (.ref b45), .val (.int (0 : Int32))] [(.ref b45)])) rfl (by rw [hml]; rfl) (lenOf pd_0_1 rfl) rfl (by show 2 * 0 + _ ≤ _; exact Nat.le_of_eq rfl) (hb hby at_244))
              refine GoesW.step st67 ?_
              show GoesW p e below s _ _ _ T67 (mkF m 247 #[.val (.int p1), .val (.int p2), .val (.int p3), .val (.int (4 : Int32)), .val (.int c0), .val (.int c1), .val (.int c2), .val (.int c3), .val (.ref b45), .val (.int (0 : Int32))] [(.int (own_ix (fun i => f16 ((own_cs c0 c1 c2 c3) i)) 4 0))])
              refine GoesW.step (fun _ k => XS.iload X67.here hx rfl (hb hby at_247) rfl k) ?_
              refine GoesW.step (fun _ k => XS.icmpNo X67.here hx rfl (hb hby at_249) rfl (teq (by rw [own_x4]; simp [own_cs, own_same, hc189, hc205, hc221, hc236])).2 k) ?_
              show GoesW p e below s _ _ _ T67 (mkF m 252 #[.val (.int p1), .val (.int p2), .val (.int p3), .val (.int (4 : Int32)), .val (.int c0), .val (.int c1), .val (.int c2), .val (.int c3), .val (.ref b45), .val (.int (0 : Int32))] [])
              refine GoesW.step (fun _ k => XS.iconst X67.here hx rfl (hb hby at_252) k) ?_
              refine GoesW.step (fun _ k => XS.goto X67.here hx rfl (pc0 := 253) (pc' := 257) rfl (hb hby at_253) (by decide) (by decide) k) ?_
              show GoesW p e below s _ _ _ T67 (mkF m 257 #[.val (.int p1), .val (.int p2), .val (.int p3), .val (.int (4 : Int32)), .val (.int c0), .val (.int c1), .val (.int c2), .val (.int c3), .val (.ref b45), .val (.int (0 : Int32))] [(.int (1 : Int32))])
              exact GoesW.outN (s := s) (vm₁ := s.vm) X67 ((State.WarmedH.refl s).since 0) (Nat.zero_le _) hx hlk (t := .boolean) Bd.returns (by simp) (hb hby at_257) ⟨rfl, N_51⟩ (by decide) (by decide)
      · refine GoesW.step (fun _ k => XS.ifNo X52.here hx rfl (hb hby at_189) rfl ((if0 _ _).trans (feq hc189).1) k) ?_
        show GoesW p e below s _ _ _ T52 (mkF m 192 #[.val (.int p1), .val (.int p2), .val (.int p3), .val (.int (4 : Int32)), .val (.int c0), .val (.int c1), .val (.int c2), .val (.int c3), .val (.ref b45), .val (.int (-1 : Int32))] [])
        refine GoesW.step (fun _ k => XS.iconst X52.here hx rfl (hb hby at_192) k) ?_
        refine GoesW.step (fun _ k => XS.istore X52.here hx rfl (hb hby at_193) rfl (l' := #[.val (.int p1), .val (.int p2), .val (.int p3), .val (.int (4 : Int32)), .val (.int c0), .val (.int c1), .val (.int c2), .val (.int c3), .val (.ref b45), .val (.int (3 : Int32))]) rfl k) ?_
        refine GoesW.step (fun _ k => XS.iloadN X52.here hx rfl (hb hby at_195) rfl k) ?_
        show GoesW p e below s _ _ _ T52 (mkF m 196 #[.val (.int p1), .val (.int p2), .val (.int p3), .val (.int (4 : Int32)), .val (.int c0), .val (.int c1), .val (.int c2), .val (.int c3), .val (.ref b45), .val (.int (3 : Int32))] [(.int (4 : Int32))])
        refine GoesW.step (fun _ k => XS.iconst X52.here hx rfl (hb hby at_196) k) ?_
        refine GoesW.step (fun _ k => XS.icmpNo X52.here hx rfl (hb hby at_197) rfl (tlt (by decide : (2 : Int32) < (4 : Int32))).2.2.2 k) ?_
        show GoesW p e below s _ _ _ T52 (mkF m 200 #[.val (.int p1), .val (.int p2), .val (.int p3), .val (.int (4 : Int32)), .val (.int c0), .val (.int c1), .val (.int c2), .val (.int c3), .val (.ref b45), .val (.int (3 : Int32))] [])
        refine GoesW.step (fun _ k => XS.iload X52.here hx rfl (hb hby at_200) rfl k) ?_
        obtain ⟨T68, X68, e68, st68⟩ := callPure X52 hx hZ (y := (⟨"com/example/cartouche/cartouche/ControlCharactersIndexInPinLaw", "ctrl", "(C)Z"⟩ : MethodName)) hown (hw _ (List.mem_of_getElem? (i := 32) rfl)) (hw _ (List.mem_of_getElem? (i := 33) rfl)) (hw _ (List.mem_of_getElem? (i := 34) rfl)) (hw _ (List.mem_of_getElem? (i := 35) rfl)) (by decide) (W := 0) (argsL := [(.int c2)]) (rest := []) (r := (.int (f7 c2))) (fun _ _ _ q => q) (rm7 l Z a0 hw [] c2 h51 ) (by decide) (by decide) (by decide) (by decide) e52 (g := (mkF m 202 #[.val (.int p1), .val (.int p2), .val (.int p3), .val (.int (4 : Int32)), .val (.int c0), .val (.int c1), .val (.int c2), .val (.int c3), .val (.ref b45), .val (.int (3 : Int32))] [(.int c2)])) rfl (by rw [hml]; rfl) (lenOf pd_0_2 rfl) rfl (by show 2 * 0 + _ ≤ _; exact Nat.le_of_eq rfl) (hb hby at_202)
        refine GoesW.step st68 ?_
        show GoesW p e below s _ _ _ T68 (mkF m 205 #[.val (.int p1), .val (.int p2), .val (.int p3), .val (.int (4 : Int32)), .val (.int c0), .val (.int c1), .val (.int c2), .val (.int c3), .val (.ref b45), .val (.int (3 : Int32))] [(.int (f7 c2))])
        by_cases hc205 : (f7 c2) = (0 : Int32)
        · refine GoesW.step (fun _ k => XS.ifYes X68.here hx rfl (pc0 := 205) (pc' := 211) rfl (hb hby at_205) rfl ((if0 _ _).trans (teq hc205).1) (by decide) (by decide) k) ?_
          show GoesW p e below s _ _ _ T68 (mkF m 211 #[.val (.int p1), .val (.int p2), .val (.int p3), .val (.int (4 : Int32)), .val (.int c0), .val (.int c1), .val (.int c2), .val (.int c3), .val (.ref b45), .val (.int (3 : Int32))] [])
          refine GoesW.step (fun _ k => XS.iloadN X68.here hx rfl (hb hby at_211) rfl k) ?_
          refine GoesW.step (fun _ k => XS.iconst X68.here hx rfl (hb hby at_212) k) ?_
          refine GoesW.step (fun _ k => XS.icmpNo X68.here hx rfl (hb hby at_213) rfl (tlt (by decide : (1 : Int32) < (4 : Int32))).2.2.2 k) ?_
          show GoesW p e below s _ _ _ T68 (mkF m 216 #[.val (.int p1), .val (.int p2), .val (.int p3), .val (.int (4 : Int32)), .val (.int c0), .val (.int c1), .val (.int c2), .val (.int c3), .val (.ref b45), .val (.int (3 : Int32))] [])
          refine GoesW.step (fun _ k => XS.iload X68.here hx rfl (hb hby at_216) rfl k) ?_
          obtain ⟨T69, X69, e69, st69⟩ := callPure X68 hx hZ (y := (⟨"com/example/cartouche/cartouche/ControlCharactersIndexInPinLaw", "ctrl", "(C)Z"⟩ : MethodName)) hown (hw _ (List.mem_of_getElem? (i := 32) rfl)) (hw _ (List.mem_of_getElem? (i := 33) rfl)) (hw _ (List.mem_of_getElem? (i := 34) rfl)) (hw _ (List.mem_of_getElem? (i := 35) rfl)) (by decide) (W := 0) (argsL := [(.int c1)]) (rest := []) (r := (.int (f7 c1))) (fun _ _ _ q => q) (rm7 l Z a0 hw [] c1 h51 ) (by decide) (by decide) (by decide) (by decide) e68 (g := (mkF m 218 #[.val (.int p1), .val (.int p2), .val (.int p3), .val (.int (4 : Int32)), .val (.int c0), .val (.int c1), .val (.int c2), .val (.int c3), .val (.ref b45), .val (.int (3 : Int32))] [(.int c1)])) rfl (by rw [hml]; rfl) (lenOf pd_0_2 rfl) rfl (by show 2 * 0 + _ ≤ _; exact Nat.le_of_eq rfl) (hb hby at_218)
          refine GoesW.step st69 ?_
          show GoesW p e below s _ _ _ T69 (mkF m 221 #[.val (.int p1), .val (.int p2), .val (.int p3), .val (.int (4 : Int32)), .val (.int c0), .val (.int c1), .val (.int c2), .val (.int c3), .val (.ref b45), .val (.int (3 : Int32))] [(.int (f7 c1))])
          by_cases hc221 : (f7 c1) = (0 : Int32)
          · refine GoesW.step (fun _ k => XS.ifYes X69.here hx rfl (pc0 := 221) (pc' := 227) rfl (hb hby at_221) rfl ((if0 _ _).trans (teq hc221).1) (by decide) (by decide) k) ?_
            show GoesW p e below s _ _ _ T69 (mkF m 227 #[.val (.int p1), .val (.int p2), .val (.int p3), .val (.int (4 : Int32)), .val (.int c0), .val (.int c1), .val (.int c2), .val (.int c3), .val (.ref b45), .val (.int (3 : Int32))] [])
            refine GoesW.step (fun _ k => XS.iloadN X69.here hx rfl (hb hby at_227) rfl k) ?_
            refine GoesW.step (fun _ k => XS.ifNo X69.here hx rfl (hb hby at_228) rfl ((if0 _ _).trans (tlt (by decide : (0 : Int32) < (4 : Int32))).2.2.2) k) ?_
            show GoesW p e below s _ _ _ T69 (mkF m 231 #[.val (.int p1), .val (.int p2), .val (.int p3), .val (.int (4 : Int32)), .val (.int c0), .val (.int c1), .val (.int c2), .val (.int c3), .val (.ref b45), .val (.int (3 : Int32))] [])
            refine GoesW.step (fun _ k => XS.iload X69.here hx rfl (hb hby at_231) rfl k) ?_
            obtain ⟨T70, X70, e70, st70⟩ := callPure X69 hx hZ (y := (⟨"com/example/cartouche/cartouche/ControlCharactersIndexInPinLaw", "ctrl", "(C)Z"⟩ : MethodName)) hown (hw _ (List.mem_of_getElem? (i := 32) rfl)) (hw _ (List.mem_of_getElem? (i := 33) rfl)) (hw _ (List.mem_of_getElem? (i := 34) rfl)) (hw _ (List.mem_of_getElem? (i := 35) rfl)) (by decide) (W := 0) (argsL := [(.int c0)]) (rest := []) (r := (.int (f7 c0))) (fun _ _ _ q => q) (rm7 l Z a0 hw [] c0 h51 ) (by decide) (by decide) (by decide) (by decide) e69 (g := (mkF m 233 #[.val (.int p1), .val (.int p2), .val (.int p3), .val (.int (4 : Int32)), .val (.int c0), .val (.int c1), .val (.int c2), .val (.int c3), .val (.ref b45), .val (.int (3 : Int32))] [(.int c0)])) rfl (by rw [hml]; rfl) (lenOf pd_0_2 rfl) rfl (by show 2 * 0 + _ ≤ _; exact Nat.le_of_eq rfl) (hb hby at_233)
            refine GoesW.step st70 ?_
            show GoesW p e below s _ _ _ T70 (mkF m 236 #[.val (.int p1), .val (.int p2), .val (.int p3), .val (.int (4 : Int32)), .val (.int c0), .val (.int c1), .val (.int c2), .val (.int c3), .val (.ref b45), .val (.int (3 : Int32))] [(.int (f7 c0))])
            by_cases hc236 : (f7 c0) = (0 : Int32)
            · refine GoesW.step (fun _ k => XS.ifYes X70.here hx rfl (pc0 := 236) (pc' := 242) rfl (hb hby at_236) rfl ((if0 _ _).trans (teq hc236).1) (by decide) (by decide) k) ?_
              show GoesW p e below s _ _ _ T70 (mkF m 242 #[.val (.int p1), .val (.int p2), .val (.int p3), .val (.int (4 : Int32)), .val (.int c0), .val (.int c1), .val (.int c2), .val (.int c3), .val (.ref b45), .val (.int (3 : Int32))] [])
              refine GoesW.step (fun _ k => XS.aload X70.here hx rfl (hb hby at_242) rfl rfl k) ?_
              obtain ⟨T71, X71, e71, st71⟩ := own_pure (r := some (.int (own_ix (fun i => f16 ((own_cs c0 c1 c2 c3) i)) 4 0))) (fun _ _ _ q => q) (callX X70 hx hZ (y := (⟨"com/example/cartouche/cartouche/ControlCharacters", "indexIn", "(Ljava/lang/String;)I"⟩ : MethodName)) hown (hw _ (List.mem_of_getElem? (i := 36) rfl)) (hw _ (List.mem_of_getElem? (i := 37) rfl)) (hw _ (List.mem_of_getElem? (i := 38) rfl)) (hw _ (List.mem_of_getElem? (i := 39) rfl)) (by decide) (W := 0) (argsL := [(.ref b45)]) (rest := []) (rm8n4 l Z a0 hw [] b45 G1 oF (own_cs c0 c1 c2 c3) h51 n0 z_51 O2 P3 (OL.keep K_51 all0) O4 O5 O6 O7 hT51) (by decide) (by decide) (by decide) (by decide) e70 (g := (mkF m 244 #[.val (.int p1), .val (.int p2), .val (.int p3), .val (.int (4 : Int32)), .val (.int c0), .val (.int c1), .val (.int c2), .val (.int c3), .val (.ref b45), .val (.int (3 : Int32))] [(.ref b45)])) rfl (by rw [hml]; rfl) (lenOf pd_0_1 rfl) rfl (by show 2 * 0 + _ ≤ _; exact Nat.le_of_eq rfl) (hb hby at_244))
              refine GoesW.step st71 ?_
              show GoesW p e below s _ _ _ T71 (mkF m 247 #[.val (.int p1), .val (.int p2), .val (.int p3), .val (.int (4 : Int32)), .val (.int c0), .val (.int c1), .val (.int c2), .val (.int c3), .val (.ref b45), .val (.int (3 : Int32))] [(.int (own_ix (fun i => f16 ((own_cs c0 c1 c2 c3) i)) 4 0))])
              refine GoesW.step (fun _ k => XS.iload X71.here hx rfl (hb hby at_247) rfl k) ?_
              refine GoesW.step (fun _ k => XS.icmpNo X71.here hx rfl (hb hby at_249) rfl (teq (by rw [own_x4]; simp [own_cs, own_same, hc189, hc205, hc221, hc236])).2 k) ?_
              show GoesW p e below s _ _ _ T71 (mkF m 252 #[.val (.int p1), .val (.int p2), .val (.int p3), .val (.int (4 : Int32)), .val (.int c0), .val (.int c1), .val (.int c2), .val (.int c3), .val (.ref b45), .val (.int (3 : Int32))] [])
              refine GoesW.step (fun _ k => XS.iconst X71.here hx rfl (hb hby at_252) k) ?_
              refine GoesW.step (fun _ k => XS.goto X71.here hx rfl (pc0 := 253) (pc' := 257) rfl (hb hby at_253) (by decide) (by decide) k) ?_
              show GoesW p e below s _ _ _ T71 (mkF m 257 #[.val (.int p1), .val (.int p2), .val (.int p3), .val (.int (4 : Int32)), .val (.int c0), .val (.int c1), .val (.int c2), .val (.int c3), .val (.ref b45), .val (.int (3 : Int32))] [(.int (1 : Int32))])
              exact GoesW.outN (s := s) (vm₁ := s.vm) X71 ((State.WarmedH.refl s).since 0) (Nat.zero_le _) hx hlk (t := .boolean) Bd.returns (by simp) (hb hby at_257) ⟨rfl, N_51⟩ (by decide) (by decide)
            · refine GoesW.step (fun _ k => XS.ifNo X70.here hx rfl (hb hby at_236) rfl ((if0 _ _).trans (feq hc236).1) k) ?_
              show GoesW p e below s _ _ _ T70 (mkF m 239 #[.val (.int p1), .val (.int p2), .val (.int p3), .val (.int (4 : Int32)), .val (.int c0), .val (.int c1), .val (.int c2), .val (.int c3), .val (.ref b45), .val (.int (3 : Int32))] [])
              refine GoesW.step (fun _ k => XS.iconst X70.here hx rfl (hb hby at_239) k) ?_
              refine GoesW.step (fun _ k => XS.istore X70.here hx rfl (hb hby at_240) rfl (l' := #[.val (.int p1), .val (.int p2), .val (.int p3), .val (.int (4 : Int32)), .val (.int c0), .val (.int c1), .val (.int c2), .val (.int c3), .val (.ref b45), .val (.int (0 : Int32))]) rfl k) ?_
              refine GoesW.step (fun _ k => XS.aload X70.here hx rfl (hb hby at_242) rfl rfl k) ?_
              show GoesW p e below s _ _ _ T70 (mkF m 244 #[.val (.int p1), .val (.int p2), .val (.int p3), .val (.int (4 : Int32)), .val (.int c0), .val (.int c1), .val (.int c2), .val (.int c3), .val (.ref b45), .val (.int (0 : Int32))] [(.ref b45)])
              obtain ⟨T72, X72, e72, st72⟩ := own_pure (r := some (.int (own_ix (fun i => f16 ((own_cs c0 c1 c2 c3) i)) 4 0))) (fun _ _ _ q => q) (callX X70 hx hZ (y := (⟨"com/example/cartouche/cartouche/ControlCharacters", "indexIn", "(Ljava/lang/String;)I"⟩ : MethodName)) hown (hw _ (List.mem_of_getElem? (i := 36) rfl)) (hw _ (List.mem_of_getElem? (i := 37) rfl)) (hw _ (List.mem_of_getElem? (i := 38) rfl)) (hw _ (List.mem_of_getElem? (i := 39) rfl)) (by decide) (W := 0) (argsL := [(.ref b45)]) (rest := []) (rm8n4 l Z a0 hw [] b45 G1 oF (own_cs c0 c1 c2 c3) h51 n0 z_51 O2 P3 (OL.keep K_51 all0) O4 O5 O6 O7 hT51) (by decide) (by decide) (by decide) (by decide) e70 (g := (mkF m 244 #[.val (.int p1), .val (.int p2), .val (.int p3), .val (.int (4 : Int32)), .val (.int c0), .val (.int c1), .val (.int c2), .val (.int c3), .val (.ref b45), .val (.int (0 : Int32))] [(.ref b45)])) rfl (by rw [hml]; rfl) (lenOf pd_0_1 rfl) rfl (by show 2 * 0 + _ ≤ _; exact Nat.le_of_eq rfl) (hb hby at_244))
              refine GoesW.step st72 ?_
              show GoesW p e below s _ _ _ T72 (mkF m 247 #[.val (.int p1), .val (.int p2), .val (.int p3), .val (.int (4 : Int32)), .val (.int c0), .val (.int c1), .val (.int c2), .val (.int c3), .val (.ref b45), .val (.int (0 : Int32))] [(.int (own_ix (fun i => f16 ((own_cs c0 c1 c2 c3) i)) 4 0))])
              refine GoesW.step (fun _ k => XS.iload X72.here hx rfl (hb hby at_247) rfl k) ?_
              refine GoesW.step (fun _ k => XS.icmpNo X72.here hx rfl (hb hby at_249) rfl (teq (by rw [own_x4]; simp [own_cs, own_same, hc189, hc205, hc221, hc236])).2 k) ?_
              show GoesW p e below s _ _ _ T72 (mkF m 252 #[.val (.int p1), .val (.int p2), .val (.int p3), .val (.int (4 : Int32)), .val (.int c0), .val (.int c1), .val (.int c2), .val (.int c3), .val (.ref b45), .val (.int (0 : Int32))] [])
              refine GoesW.step (fun _ k => XS.iconst X72.here hx rfl (hb hby at_252) k) ?_
              refine GoesW.step (fun _ k => XS.goto X72.here hx rfl (pc0 := 253) (pc' := 257) rfl (hb hby at_253) (by decide) (by decide) k) ?_
              show GoesW p e below s _ _ _ T72 (mkF m 257 #[.val (.int p1), .val (.int p2), .val (.int p3), .val (.int (4 : Int32)), .val (.int c0), .val (.int c1), .val (.int c2), .val (.int c3), .val (.ref b45), .val (.int (0 : Int32))] [(.int (1 : Int32))])
              exact GoesW.outN (s := s) (vm₁ := s.vm) X72 ((State.WarmedH.refl s).since 0) (Nat.zero_le _) hx hlk (t := .boolean) Bd.returns (by simp) (hb hby at_257) ⟨rfl, N_51⟩ (by decide) (by decide)
          · refine GoesW.step (fun _ k => XS.ifNo X69.here hx rfl (hb hby at_221) rfl ((if0 _ _).trans (feq hc221).1) k) ?_
            show GoesW p e below s _ _ _ T69 (mkF m 224 #[.val (.int p1), .val (.int p2), .val (.int p3), .val (.int (4 : Int32)), .val (.int c0), .val (.int c1), .val (.int c2), .val (.int c3), .val (.ref b45), .val (.int (3 : Int32))] [])
            refine GoesW.step (fun _ k => XS.iconst X69.here hx rfl (hb hby at_224) k) ?_
            refine GoesW.step (fun _ k => XS.istore X69.here hx rfl (hb hby at_225) rfl (l' := #[.val (.int p1), .val (.int p2), .val (.int p3), .val (.int (4 : Int32)), .val (.int c0), .val (.int c1), .val (.int c2), .val (.int c3), .val (.ref b45), .val (.int (1 : Int32))]) rfl k) ?_
            refine GoesW.step (fun _ k => XS.iloadN X69.here hx rfl (hb hby at_227) rfl k) ?_
            show GoesW p e below s _ _ _ T69 (mkF m 228 #[.val (.int p1), .val (.int p2), .val (.int p3), .val (.int (4 : Int32)), .val (.int c0), .val (.int c1), .val (.int c2), .val (.int c3), .val (.ref b45), .val (.int (1 : Int32))] [(.int (4 : Int32))])
            refine GoesW.step (fun _ k => XS.ifNo X69.here hx rfl (hb hby at_228) rfl ((if0 _ _).trans (tlt (by decide : (0 : Int32) < (4 : Int32))).2.2.2) k) ?_
            show GoesW p e below s _ _ _ T69 (mkF m 231 #[.val (.int p1), .val (.int p2), .val (.int p3), .val (.int (4 : Int32)), .val (.int c0), .val (.int c1), .val (.int c2), .val (.int c3), .val (.ref b45), .val (.int (1 : Int32))] [])
            refine GoesW.step (fun _ k => XS.iload X69.here hx rfl (hb hby at_231) rfl k) ?_
            obtain ⟨T73, X73, e73, st73⟩ := callPure X69 hx hZ (y := (⟨"com/example/cartouche/cartouche/ControlCharactersIndexInPinLaw", "ctrl", "(C)Z"⟩ : MethodName)) hown (hw _ (List.mem_of_getElem? (i := 32) rfl)) (hw _ (List.mem_of_getElem? (i := 33) rfl)) (hw _ (List.mem_of_getElem? (i := 34) rfl)) (hw _ (List.mem_of_getElem? (i := 35) rfl)) (by decide) (W := 0) (argsL := [(.int c0)]) (rest := []) (r := (.int (f7 c0))) (fun _ _ _ q => q) (rm7 l Z a0 hw [] c0 h51 ) (by decide) (by decide) (by decide) (by decide) e69 (g := (mkF m 233 #[.val (.int p1), .val (.int p2), .val (.int p3), .val (.int (4 : Int32)), .val (.int c0), .val (.int c1), .val (.int c2), .val (.int c3), .val (.ref b45), .val (.int (1 : Int32))] [(.int c0)])) rfl (by rw [hml]; rfl) (lenOf pd_0_2 rfl) rfl (by show 2 * 0 + _ ≤ _; exact Nat.le_of_eq rfl) (hb hby at_233)
            refine GoesW.step st73 ?_
            show GoesW p e below s _ _ _ T73 (mkF m 236 #[.val (.int p1), .val (.int p2), .val (.int p3), .val (.int (4 : Int32)), .val (.int c0), .val (.int c1), .val (.int c2), .val (.int c3), .val (.ref b45), .val (.int (1 : Int32))] [(.int (f7 c0))])
            by_cases hc236 : (f7 c0) = (0 : Int32)
            · refine GoesW.step (fun _ k => XS.ifYes X73.here hx rfl (pc0 := 236) (pc' := 242) rfl (hb hby at_236) rfl ((if0 _ _).trans (teq hc236).1) (by decide) (by decide) k) ?_
              show GoesW p e below s _ _ _ T73 (mkF m 242 #[.val (.int p1), .val (.int p2), .val (.int p3), .val (.int (4 : Int32)), .val (.int c0), .val (.int c1), .val (.int c2), .val (.int c3), .val (.ref b45), .val (.int (1 : Int32))] [])
              refine GoesW.step (fun _ k => XS.aload X73.here hx rfl (hb hby at_242) rfl rfl k) ?_
              obtain ⟨T74, X74, e74, st74⟩ := own_pure (r := some (.int (own_ix (fun i => f16 ((own_cs c0 c1 c2 c3) i)) 4 0))) (fun _ _ _ q => q) (callX X73 hx hZ (y := (⟨"com/example/cartouche/cartouche/ControlCharacters", "indexIn", "(Ljava/lang/String;)I"⟩ : MethodName)) hown (hw _ (List.mem_of_getElem? (i := 36) rfl)) (hw _ (List.mem_of_getElem? (i := 37) rfl)) (hw _ (List.mem_of_getElem? (i := 38) rfl)) (hw _ (List.mem_of_getElem? (i := 39) rfl)) (by decide) (W := 0) (argsL := [(.ref b45)]) (rest := []) (rm8n4 l Z a0 hw [] b45 G1 oF (own_cs c0 c1 c2 c3) h51 n0 z_51 O2 P3 (OL.keep K_51 all0) O4 O5 O6 O7 hT51) (by decide) (by decide) (by decide) (by decide) e73 (g := (mkF m 244 #[.val (.int p1), .val (.int p2), .val (.int p3), .val (.int (4 : Int32)), .val (.int c0), .val (.int c1), .val (.int c2), .val (.int c3), .val (.ref b45), .val (.int (1 : Int32))] [(.ref b45)])) rfl (by rw [hml]; rfl) (lenOf pd_0_1 rfl) rfl (by show 2 * 0 + _ ≤ _; exact Nat.le_of_eq rfl) (hb hby at_244))
              refine GoesW.step st74 ?_
              show GoesW p e below s _ _ _ T74 (mkF m 247 #[.val (.int p1), .val (.int p2), .val (.int p3), .val (.int (4 : Int32)), .val (.int c0), .val (.int c1), .val (.int c2), .val (.int c3), .val (.ref b45), .val (.int (1 : Int32))] [(.int (own_ix (fun i => f16 ((own_cs c0 c1 c2 c3) i)) 4 0))])
              refine GoesW.step (fun _ k => XS.iload X74.here hx rfl (hb hby at_247) rfl k) ?_
              refine GoesW.step (fun _ k => XS.icmpNo X74.here hx rfl (hb hby at_249) rfl (teq (by rw [own_x4]; simp [own_cs, own_same, hc189, hc205, hc221, hc236])).2 k) ?_
              show GoesW p e below s _ _ _ T74 (mkF m 252 #[.val (.int p1), .val (.int p2), .val (.int p3), .val (.int (4 : Int32)), .val (.int c0), .val (.int c1), .val (.int c2), .val (.int c3), .val (.ref b45), .val (.int (1 : Int32))] [])
              refine GoesW.step (fun _ k => XS.iconst X74.here hx rfl (hb hby at_252) k) ?_
              refine GoesW.step (fun _ k => XS.goto X74.here hx rfl (pc0 := 253) (pc' := 257) rfl (hb hby at_253) (by decide) (by decide) k) ?_
              show GoesW p e below s _ _ _ T74 (mkF m 257 #[.val (.int p1), .val (.int p2), .val (.int p3), .val (.int (4 : Int32)), .val (.int c0), .val (.int c1), .val (.int c2), .val (.int c3), .val (.ref b45), .val (.int (1 : Int32))] [(.int (1 : Int32))])
              exact GoesW.outN (s := s) (vm₁ := s.vm) X74 ((State.WarmedH.refl s).since 0) (Nat.zero_le _) hx hlk (t := .boolean) Bd.returns (by simp) (hb hby at_257) ⟨rfl, N_51⟩ (by decide) (by decide)
            · refine GoesW.step (fun _ k => XS.ifNo X73.here hx rfl (hb hby at_236) rfl ((if0 _ _).trans (feq hc236).1) k) ?_
              show GoesW p e below s _ _ _ T73 (mkF m 239 #[.val (.int p1), .val (.int p2), .val (.int p3), .val (.int (4 : Int32)), .val (.int c0), .val (.int c1), .val (.int c2), .val (.int c3), .val (.ref b45), .val (.int (1 : Int32))] [])
              refine GoesW.step (fun _ k => XS.iconst X73.here hx rfl (hb hby at_239) k) ?_
              refine GoesW.step (fun _ k => XS.istore X73.here hx rfl (hb hby at_240) rfl (l' := #[.val (.int p1), .val (.int p2), .val (.int p3), .val (.int (4 : Int32)), .val (.int c0), .val (.int c1), .val (.int c2), .val (.int c3), .val (.ref b45), .val (.int (0 : Int32))]) rfl k) ?_
              refine GoesW.step (fun _ k => XS.aload X73.here hx rfl (hb hby at_242) rfl rfl k) ?_
              show GoesW p e below s _ _ _ T73 (mkF m 244 #[.val (.int p1), .val (.int p2), .val (.int p3), .val (.int (4 : Int32)), .val (.int c0), .val (.int c1), .val (.int c2), .val (.int c3), .val (.ref b45), .val (.int (0 : Int32))] [(.ref b45)])
              obtain ⟨T75, X75, e75, st75⟩ := own_pure (r := some (.int (own_ix (fun i => f16 ((own_cs c0 c1 c2 c3) i)) 4 0))) (fun _ _ _ q => q) (callX X73 hx hZ (y := (⟨"com/example/cartouche/cartouche/ControlCharacters", "indexIn", "(Ljava/lang/String;)I"⟩ : MethodName)) hown (hw _ (List.mem_of_getElem? (i := 36) rfl)) (hw _ (List.mem_of_getElem? (i := 37) rfl)) (hw _ (List.mem_of_getElem? (i := 38) rfl)) (hw _ (List.mem_of_getElem? (i := 39) rfl)) (by decide) (W := 0) (argsL := [(.ref b45)]) (rest := []) (rm8n4 l Z a0 hw [] b45 G1 oF (own_cs c0 c1 c2 c3) h51 n0 z_51 O2 P3 (OL.keep K_51 all0) O4 O5 O6 O7 hT51) (by decide) (by decide) (by decide) (by decide) e73 (g := (mkF m 244 #[.val (.int p1), .val (.int p2), .val (.int p3), .val (.int (4 : Int32)), .val (.int c0), .val (.int c1), .val (.int c2), .val (.int c3), .val (.ref b45), .val (.int (0 : Int32))] [(.ref b45)])) rfl (by rw [hml]; rfl) (lenOf pd_0_1 rfl) rfl (by show 2 * 0 + _ ≤ _; exact Nat.le_of_eq rfl) (hb hby at_244))
              refine GoesW.step st75 ?_
              show GoesW p e below s _ _ _ T75 (mkF m 247 #[.val (.int p1), .val (.int p2), .val (.int p3), .val (.int (4 : Int32)), .val (.int c0), .val (.int c1), .val (.int c2), .val (.int c3), .val (.ref b45), .val (.int (0 : Int32))] [(.int (own_ix (fun i => f16 ((own_cs c0 c1 c2 c3) i)) 4 0))])
              refine GoesW.step (fun _ k => XS.iload X75.here hx rfl (hb hby at_247) rfl k) ?_
              refine GoesW.step (fun _ k => XS.icmpNo X75.here hx rfl (hb hby at_249) rfl (teq (by rw [own_x4]; simp [own_cs, own_same, hc189, hc205, hc221, hc236])).2 k) ?_
              show GoesW p e below s _ _ _ T75 (mkF m 252 #[.val (.int p1), .val (.int p2), .val (.int p3), .val (.int (4 : Int32)), .val (.int c0), .val (.int c1), .val (.int c2), .val (.int c3), .val (.ref b45), .val (.int (0 : Int32))] [])
              refine GoesW.step (fun _ k => XS.iconst X75.here hx rfl (hb hby at_252) k) ?_
              refine GoesW.step (fun _ k => XS.goto X75.here hx rfl (pc0 := 253) (pc' := 257) rfl (hb hby at_253) (by decide) (by decide) k) ?_
              show GoesW p e below s _ _ _ T75 (mkF m 257 #[.val (.int p1), .val (.int p2), .val (.int p3), .val (.int (4 : Int32)), .val (.int c0), .val (.int c1), .val (.int c2), .val (.int c3), .val (.ref b45), .val (.int (0 : Int32))] [(.int (1 : Int32))])
              exact GoesW.outN (s := s) (vm₁ := s.vm) X75 ((State.WarmedH.refl s).since 0) (Nat.zero_le _) hx hlk (t := .boolean) Bd.returns (by simp) (hb hby at_257) ⟨rfl, N_51⟩ (by decide) (by decide)
        · refine GoesW.step (fun _ k => XS.ifNo X68.here hx rfl (hb hby at_205) rfl ((if0 _ _).trans (feq hc205).1) k) ?_
          show GoesW p e below s _ _ _ T68 (mkF m 208 #[.val (.int p1), .val (.int p2), .val (.int p3), .val (.int (4 : Int32)), .val (.int c0), .val (.int c1), .val (.int c2), .val (.int c3), .val (.ref b45), .val (.int (3 : Int32))] [])
          refine GoesW.step (fun _ k => XS.iconst X68.here hx rfl (hb hby at_208) k) ?_
          refine GoesW.step (fun _ k => XS.istore X68.here hx rfl (hb hby at_209) rfl (l' := #[.val (.int p1), .val (.int p2), .val (.int p3), .val (.int (4 : Int32)), .val (.int c0), .val (.int c1), .val (.int c2), .val (.int c3), .val (.ref b45), .val (.int (2 : Int32))]) rfl k) ?_
          refine GoesW.step (fun _ k => XS.iloadN X68.here hx rfl (hb hby at_211) rfl k) ?_
          show GoesW p e below s _ _ _ T68 (mkF m 212 #[.val (.int p1), .val (.int p2), .val (.int p3), .val (.int (4 : Int32)), .val (.int c0), .val (.int c1), .val (.int c2), .val (.int c3), .val (.ref b45), .val (.int (2 : Int32))] [(.int (4 : Int32))])
          refine GoesW.step (fun _ k => XS.iconst X68.here hx rfl (hb hby at_212) k) ?_
          refine GoesW.step (fun _ k => XS.icmpNo X68.here hx rfl (hb hby at_213) rfl (tlt (by decide : (1 : Int32) < (4 : Int32))).2.2.2 k) ?_
          show GoesW p e below s _ _ _ T68 (mkF m 216 #[.val (.int p1), .val (.int p2), .val (.int p3), .val (.int (4 : Int32)), .val (.int c0), .val (.int c1), .val (.int c2), .val (.int c3), .val (.ref b45), .val (.int (2 : Int32))] [])
          refine GoesW.step (fun _ k => XS.iload X68.here hx rfl (hb hby at_216) rfl k) ?_
          obtain ⟨T76, X76, e76, st76⟩ := callPure X68 hx hZ (y := (⟨"com/example/cartouche/cartouche/ControlCharactersIndexInPinLaw", "ctrl", "(C)Z"⟩ : MethodName)) hown (hw _ (List.mem_of_getElem? (i := 32) rfl)) (hw _ (List.mem_of_getElem? (i := 33) rfl)) (hw _ (List.mem_of_getElem? (i := 34) rfl)) (hw _ (List.mem_of_getElem? (i := 35) rfl)) (by decide) (W := 0) (argsL := [(.int c1)]) (rest := []) (r := (.int (f7 c1))) (fun _ _ _ q => q) (rm7 l Z a0 hw [] c1 h51 ) (by decide) (by decide) (by decide) (by decide) e68 (g := (mkF m 218 #[.val (.int p1), .val (.int p2), .val (.int p3), .val (.int (4 : Int32)), .val (.int c0), .val (.int c1), .val (.int c2), .val (.int c3), .val (.ref b45), .val (.int (2 : Int32))] [(.int c1)])) rfl (by rw [hml]; rfl) (lenOf pd_0_2 rfl) rfl (by show 2 * 0 + _ ≤ _; exact Nat.le_of_eq rfl) (hb hby at_218)
          refine GoesW.step st76 ?_
          show GoesW p e below s _ _ _ T76 (mkF m 221 #[.val (.int p1), .val (.int p2), .val (.int p3), .val (.int (4 : Int32)), .val (.int c0), .val (.int c1), .val (.int c2), .val (.int c3), .val (.ref b45), .val (.int (2 : Int32))] [(.int (f7 c1))])
          by_cases hc221 : (f7 c1) = (0 : Int32)
          · refine GoesW.step (fun _ k => XS.ifYes X76.here hx rfl (pc0 := 221) (pc' := 227) rfl (hb hby at_221) rfl ((if0 _ _).trans (teq hc221).1) (by decide) (by decide) k) ?_
            show GoesW p e below s _ _ _ T76 (mkF m 227 #[.val (.int p1), .val (.int p2), .val (.int p3), .val (.int (4 : Int32)), .val (.int c0), .val (.int c1), .val (.int c2), .val (.int c3), .val (.ref b45), .val (.int (2 : Int32))] [])
            refine GoesW.step (fun _ k => XS.iloadN X76.here hx rfl (hb hby at_227) rfl k) ?_
            refine GoesW.step (fun _ k => XS.ifNo X76.here hx rfl (hb hby at_228) rfl ((if0 _ _).trans (tlt (by decide : (0 : Int32) < (4 : Int32))).2.2.2) k) ?_
            show GoesW p e below s _ _ _ T76 (mkF m 231 #[.val (.int p1), .val (.int p2), .val (.int p3), .val (.int (4 : Int32)), .val (.int c0), .val (.int c1), .val (.int c2), .val (.int c3), .val (.ref b45), .val (.int (2 : Int32))] [])
            refine GoesW.step (fun _ k => XS.iload X76.here hx rfl (hb hby at_231) rfl k) ?_
            obtain ⟨T77, X77, e77, st77⟩ := callPure X76 hx hZ (y := (⟨"com/example/cartouche/cartouche/ControlCharactersIndexInPinLaw", "ctrl", "(C)Z"⟩ : MethodName)) hown (hw _ (List.mem_of_getElem? (i := 32) rfl)) (hw _ (List.mem_of_getElem? (i := 33) rfl)) (hw _ (List.mem_of_getElem? (i := 34) rfl)) (hw _ (List.mem_of_getElem? (i := 35) rfl)) (by decide) (W := 0) (argsL := [(.int c0)]) (rest := []) (r := (.int (f7 c0))) (fun _ _ _ q => q) (rm7 l Z a0 hw [] c0 h51 ) (by decide) (by decide) (by decide) (by decide) e76 (g := (mkF m 233 #[.val (.int p1), .val (.int p2), .val (.int p3), .val (.int (4 : Int32)), .val (.int c0), .val (.int c1), .val (.int c2), .val (.int c3), .val (.ref b45), .val (.int (2 : Int32))] [(.int c0)])) rfl (by rw [hml]; rfl) (lenOf pd_0_2 rfl) rfl (by show 2 * 0 + _ ≤ _; exact Nat.le_of_eq rfl) (hb hby at_233)
            refine GoesW.step st77 ?_
            show GoesW p e below s _ _ _ T77 (mkF m 236 #[.val (.int p1), .val (.int p2), .val (.int p3), .val (.int (4 : Int32)), .val (.int c0), .val (.int c1), .val (.int c2), .val (.int c3), .val (.ref b45), .val (.int (2 : Int32))] [(.int (f7 c0))])
            by_cases hc236 : (f7 c0) = (0 : Int32)
            · refine GoesW.step (fun _ k => XS.ifYes X77.here hx rfl (pc0 := 236) (pc' := 242) rfl (hb hby at_236) rfl ((if0 _ _).trans (teq hc236).1) (by decide) (by decide) k) ?_
              show GoesW p e below s _ _ _ T77 (mkF m 242 #[.val (.int p1), .val (.int p2), .val (.int p3), .val (.int (4 : Int32)), .val (.int c0), .val (.int c1), .val (.int c2), .val (.int c3), .val (.ref b45), .val (.int (2 : Int32))] [])
              refine GoesW.step (fun _ k => XS.aload X77.here hx rfl (hb hby at_242) rfl rfl k) ?_
              obtain ⟨T78, X78, e78, st78⟩ := own_pure (r := some (.int (own_ix (fun i => f16 ((own_cs c0 c1 c2 c3) i)) 4 0))) (fun _ _ _ q => q) (callX X77 hx hZ (y := (⟨"com/example/cartouche/cartouche/ControlCharacters", "indexIn", "(Ljava/lang/String;)I"⟩ : MethodName)) hown (hw _ (List.mem_of_getElem? (i := 36) rfl)) (hw _ (List.mem_of_getElem? (i := 37) rfl)) (hw _ (List.mem_of_getElem? (i := 38) rfl)) (hw _ (List.mem_of_getElem? (i := 39) rfl)) (by decide) (W := 0) (argsL := [(.ref b45)]) (rest := []) (rm8n4 l Z a0 hw [] b45 G1 oF (own_cs c0 c1 c2 c3) h51 n0 z_51 O2 P3 (OL.keep K_51 all0) O4 O5 O6 O7 hT51) (by decide) (by decide) (by decide) (by decide) e77 (g := (mkF m 244 #[.val (.int p1), .val (.int p2), .val (.int p3), .val (.int (4 : Int32)), .val (.int c0), .val (.int c1), .val (.int c2), .val (.int c3), .val (.ref b45), .val (.int (2 : Int32))] [(.ref b45)])) rfl (by rw [hml]; rfl) (lenOf pd_0_1 rfl) rfl (by show 2 * 0 + _ ≤ _; exact Nat.le_of_eq rfl) (hb hby at_244))
              refine GoesW.step st78 ?_
              show GoesW p e below s _ _ _ T78 (mkF m 247 #[.val (.int p1), .val (.int p2), .val (.int p3), .val (.int (4 : Int32)), .val (.int c0), .val (.int c1), .val (.int c2), .val (.int c3), .val (.ref b45), .val (.int (2 : Int32))] [(.int (own_ix (fun i => f16 ((own_cs c0 c1 c2 c3) i)) 4 0))])
              refine GoesW.step (fun _ k => XS.iload X78.here hx rfl (hb hby at_247) rfl k) ?_
              refine GoesW.step (fun _ k => XS.icmpNo X78.here hx rfl (hb hby at_249) rfl (teq (by rw [own_x4]; simp [own_cs, own_same, hc189, hc205, hc221, hc236])).2 k) ?_
              show GoesW p e below s _ _ _ T78 (mkF m 252 #[.val (.int p1), .val (.int p2), .val (.int p3), .val (.int (4 : Int32)), .val (.int c0), .val (.int c1), .val (.int c2), .val (.int c3), .val (.ref b45), .val (.int (2 : Int32))] [])
              refine GoesW.step (fun _ k => XS.iconst X78.here hx rfl (hb hby at_252) k) ?_
              refine GoesW.step (fun _ k => XS.goto X78.here hx rfl (pc0 := 253) (pc' := 257) rfl (hb hby at_253) (by decide) (by decide) k) ?_
              show GoesW p e below s _ _ _ T78 (mkF m 257 #[.val (.int p1), .val (.int p2), .val (.int p3), .val (.int (4 : Int32)), .val (.int c0), .val (.int c1), .val (.int c2), .val (.int c3), .val (.ref b45), .val (.int (2 : Int32))] [(.int (1 : Int32))])
              exact GoesW.outN (s := s) (vm₁ := s.vm) X78 ((State.WarmedH.refl s).since 0) (Nat.zero_le _) hx hlk (t := .boolean) Bd.returns (by simp) (hb hby at_257) ⟨rfl, N_51⟩ (by decide) (by decide)
            · refine GoesW.step (fun _ k => XS.ifNo X77.here hx rfl (hb hby at_236) rfl ((if0 _ _).trans (feq hc236).1) k) ?_
              show GoesW p e below s _ _ _ T77 (mkF m 239 #[.val (.int p1), .val (.int p2), .val (.int p3), .val (.int (4 : Int32)), .val (.int c0), .val (.int c1), .val (.int c2), .val (.int c3), .val (.ref b45), .val (.int (2 : Int32))] [])
              refine GoesW.step (fun _ k => XS.iconst X77.here hx rfl (hb hby at_239) k) ?_
              refine GoesW.step (fun _ k => XS.istore X77.here hx rfl (hb hby at_240) rfl (l' := #[.val (.int p1), .val (.int p2), .val (.int p3), .val (.int (4 : Int32)), .val (.int c0), .val (.int c1), .val (.int c2), .val (.int c3), .val (.ref b45), .val (.int (0 : Int32))]) rfl k) ?_
              refine GoesW.step (fun _ k => XS.aload X77.here hx rfl (hb hby at_242) rfl rfl k) ?_
              show GoesW p e below s _ _ _ T77 (mkF m 244 #[.val (.int p1), .val (.int p2), .val (.int p3), .val (.int (4 : Int32)), .val (.int c0), .val (.int c1), .val (.int c2), .val (.int c3), .val (.ref b45), .val (.int (0 : Int32))] [(.ref b45)])
              obtain ⟨T79, X79, e79, st79⟩ := own_pure (r := some (.int (own_ix (fun i => f16 ((own_cs c0 c1 c2 c3) i)) 4 0))) (fun _ _ _ q => q) (callX X77 hx hZ (y := (⟨"com/example/cartouche/cartouche/ControlCharacters", "indexIn", "(Ljava/lang/String;)I"⟩ : MethodName)) hown (hw _ (List.mem_of_getElem? (i := 36) rfl)) (hw _ (List.mem_of_getElem? (i := 37) rfl)) (hw _ (List.mem_of_getElem? (i := 38) rfl)) (hw _ (List.mem_of_getElem? (i := 39) rfl)) (by decide) (W := 0) (argsL := [(.ref b45)]) (rest := []) (rm8n4 l Z a0 hw [] b45 G1 oF (own_cs c0 c1 c2 c3) h51 n0 z_51 O2 P3 (OL.keep K_51 all0) O4 O5 O6 O7 hT51) (by decide) (by decide) (by decide) (by decide) e77 (g := (mkF m 244 #[.val (.int p1), .val (.int p2), .val (.int p3), .val (.int (4 : Int32)), .val (.int c0), .val (.int c1), .val (.int c2), .val (.int c3), .val (.ref b45), .val (.int (0 : Int32))] [(.ref b45)])) rfl (by rw [hml]; rfl) (lenOf pd_0_1 rfl) rfl (by show 2 * 0 + _ ≤ _; exact Nat.le_of_eq rfl) (hb hby at_244))
              refine GoesW.step st79 ?_
              show GoesW p e below s _ _ _ T79 (mkF m 247 #[.val (.int p1), .val (.int p2), .val (.int p3), .val (.int (4 : Int32)), .val (.int c0), .val (.int c1), .val (.int c2), .val (.int c3), .val (.ref b45), .val (.int (0 : Int32))] [(.int (own_ix (fun i => f16 ((own_cs c0 c1 c2 c3) i)) 4 0))])
              refine GoesW.step (fun _ k => XS.iload X79.here hx rfl (hb hby at_247) rfl k) ?_
              refine GoesW.step (fun _ k => XS.icmpNo X79.here hx rfl (hb hby at_249) rfl (teq (by rw [own_x4]; simp [own_cs, own_same, hc189, hc205, hc221, hc236])).2 k) ?_
              show GoesW p e below s _ _ _ T79 (mkF m 252 #[.val (.int p1), .val (.int p2), .val (.int p3), .val (.int (4 : Int32)), .val (.int c0), .val (.int c1), .val (.int c2), .val (.int c3), .val (.ref b45), .val (.int (0 : Int32))] [])
              refine GoesW.step (fun _ k => XS.iconst X79.here hx rfl (hb hby at_252) k) ?_
              refine GoesW.step (fun _ k => XS.goto X79.here hx rfl (pc0 := 253) (pc' := 257) rfl (hb hby at_253) (by decide) (by decide) k) ?_
              show GoesW p e below s _ _ _ T79 (mkF m 257 #[.val (.int p1), .val (.int p2), .val (.int p3), .val (.int (4 : Int32)), .val (.int c0), .val (.int c1), .val (.int c2), .val (.int c3), .val (.ref b45), .val (.int (0 : Int32))] [(.int (1 : Int32))])
              exact GoesW.outN (s := s) (vm₁ := s.vm) X79 ((State.WarmedH.refl s).since 0) (Nat.zero_le _) hx hlk (t := .boolean) Bd.returns (by simp) (hb hby at_257) ⟨rfl, N_51⟩ (by decide) (by decide)
          · refine GoesW.step (fun _ k => XS.ifNo X76.here hx rfl (hb hby at_221) rfl ((if0 _ _).trans (feq hc221).1) k) ?_
            show GoesW p e below s _ _ _ T76 (mkF m 224 #[.val (.int p1), .val (.int p2), .val (.int p3), .val (.int (4 : Int32)), .val (.int c0), .val (.int c1), .val (.int c2), .val (.int c3), .val (.ref b45), .val (.int (2 : Int32))] [])
            refine GoesW.step (fun _ k => XS.iconst X76.here hx rfl (hb hby at_224) k) ?_
            refine GoesW.step (fun _ k => XS.istore X76.here hx rfl (hb hby at_225) rfl (l' := #[.val (.int p1), .val (.int p2), .val (.int p3), .val (.int (4 : Int32)), .val (.int c0), .val (.int c1), .val (.int c2), .val (.int c3), .val (.ref b45), .val (.int (1 : Int32))]) rfl k) ?_
            refine GoesW.step (fun _ k => XS.iloadN X76.here hx rfl (hb hby at_227) rfl k) ?_
            show GoesW p e below s _ _ _ T76 (mkF m 228 #[.val (.int p1), .val (.int p2), .val (.int p3), .val (.int (4 : Int32)), .val (.int c0), .val (.int c1), .val (.int c2), .val (.int c3), .val (.ref b45), .val (.int (1 : Int32))] [(.int (4 : Int32))])
            refine GoesW.step (fun _ k => XS.ifNo X76.here hx rfl (hb hby at_228) rfl ((if0 _ _).trans (tlt (by decide : (0 : Int32) < (4 : Int32))).2.2.2) k) ?_
            show GoesW p e below s _ _ _ T76 (mkF m 231 #[.val (.int p1), .val (.int p2), .val (.int p3), .val (.int (4 : Int32)), .val (.int c0), .val (.int c1), .val (.int c2), .val (.int c3), .val (.ref b45), .val (.int (1 : Int32))] [])
            refine GoesW.step (fun _ k => XS.iload X76.here hx rfl (hb hby at_231) rfl k) ?_
            obtain ⟨T80, X80, e80, st80⟩ := callPure X76 hx hZ (y := (⟨"com/example/cartouche/cartouche/ControlCharactersIndexInPinLaw", "ctrl", "(C)Z"⟩ : MethodName)) hown (hw _ (List.mem_of_getElem? (i := 32) rfl)) (hw _ (List.mem_of_getElem? (i := 33) rfl)) (hw _ (List.mem_of_getElem? (i := 34) rfl)) (hw _ (List.mem_of_getElem? (i := 35) rfl)) (by decide) (W := 0) (argsL := [(.int c0)]) (rest := []) (r := (.int (f7 c0))) (fun _ _ _ q => q) (rm7 l Z a0 hw [] c0 h51 ) (by decide) (by decide) (by decide) (by decide) e76 (g := (mkF m 233 #[.val (.int p1), .val (.int p2), .val (.int p3), .val (.int (4 : Int32)), .val (.int c0), .val (.int c1), .val (.int c2), .val (.int c3), .val (.ref b45), .val (.int (1 : Int32))] [(.int c0)])) rfl (by rw [hml]; rfl) (lenOf pd_0_2 rfl) rfl (by show 2 * 0 + _ ≤ _; exact Nat.le_of_eq rfl) (hb hby at_233)
            refine GoesW.step st80 ?_
            show GoesW p e below s _ _ _ T80 (mkF m 236 #[.val (.int p1), .val (.int p2), .val (.int p3), .val (.int (4 : Int32)), .val (.int c0), .val (.int c1), .val (.int c2), .val (.int c3), .val (.ref b45), .val (.int (1 : Int32))] [(.int (f7 c0))])
            by_cases hc236 : (f7 c0) = (0 : Int32)
            · refine GoesW.step (fun _ k => XS.ifYes X80.here hx rfl (pc0 := 236) (pc' := 242) rfl (hb hby at_236) rfl ((if0 _ _).trans (teq hc236).1) (by decide) (by decide) k) ?_
              show GoesW p e below s _ _ _ T80 (mkF m 242 #[.val (.int p1), .val (.int p2), .val (.int p3), .val (.int (4 : Int32)), .val (.int c0), .val (.int c1), .val (.int c2), .val (.int c3), .val (.ref b45), .val (.int (1 : Int32))] [])
              refine GoesW.step (fun _ k => XS.aload X80.here hx rfl (hb hby at_242) rfl rfl k) ?_
              obtain ⟨T81, X81, e81, st81⟩ := own_pure (r := some (.int (own_ix (fun i => f16 ((own_cs c0 c1 c2 c3) i)) 4 0))) (fun _ _ _ q => q) (callX X80 hx hZ (y := (⟨"com/example/cartouche/cartouche/ControlCharacters", "indexIn", "(Ljava/lang/String;)I"⟩ : MethodName)) hown (hw _ (List.mem_of_getElem? (i := 36) rfl)) (hw _ (List.mem_of_getElem? (i := 37) rfl)) (hw _ (List.mem_of_getElem? (i := 38) rfl)) (hw _ (List.mem_of_getElem? (i := 39) rfl)) (by decide) (W := 0) (argsL := [(.ref b45)]) (rest := []) (rm8n4 l Z a0 hw [] b45 G1 oF (own_cs c0 c1 c2 c3) h51 n0 z_51 O2 P3 (OL.keep K_51 all0) O4 O5 O6 O7 hT51) (by decide) (by decide) (by decide) (by decide) e80 (g := (mkF m 244 #[.val (.int p1), .val (.int p2), .val (.int p3), .val (.int (4 : Int32)), .val (.int c0), .val (.int c1), .val (.int c2), .val (.int c3), .val (.ref b45), .val (.int (1 : Int32))] [(.ref b45)])) rfl (by rw [hml]; rfl) (lenOf pd_0_1 rfl) rfl (by show 2 * 0 + _ ≤ _; exact Nat.le_of_eq rfl) (hb hby at_244))
              refine GoesW.step st81 ?_
              show GoesW p e below s _ _ _ T81 (mkF m 247 #[.val (.int p1), .val (.int p2), .val (.int p3), .val (.int (4 : Int32)), .val (.int c0), .val (.int c1), .val (.int c2), .val (.int c3), .val (.ref b45), .val (.int (1 : Int32))] [(.int (own_ix (fun i => f16 ((own_cs c0 c1 c2 c3) i)) 4 0))])
              refine GoesW.step (fun _ k => XS.iload X81.here hx rfl (hb hby at_247) rfl k) ?_
              refine GoesW.step (fun _ k => XS.icmpNo X81.here hx rfl (hb hby at_249) rfl (teq (by rw [own_x4]; simp [own_cs, own_same, hc189, hc205, hc221, hc236])).2 k) ?_
              show GoesW p e below s _ _ _ T81 (mkF m 252 #[.val (.int p1), .val (.int p2), .val (.int p3), .val (.int (4 : Int32)), .val (.int c0), .val (.int c1), .val (.int c2), .val (.int c3), .val (.ref b45), .val (.int (1 : Int32))] [])
              refine GoesW.step (fun _ k => XS.iconst X81.here hx rfl (hb hby at_252) k) ?_
              refine GoesW.step (fun _ k => XS.goto X81.here hx rfl (pc0 := 253) (pc' := 257) rfl (hb hby at_253) (by decide) (by decide) k) ?_
              show GoesW p e below s _ _ _ T81 (mkF m 257 #[.val (.int p1), .val (.int p2), .val (.int p3), .val (.int (4 : Int32)), .val (.int c0), .val (.int c1), .val (.int c2), .val (.int c3), .val (.ref b45), .val (.int (1 : Int32))] [(.int (1 : Int32))])
              exact GoesW.outN (s := s) (vm₁ := s.vm) X81 ((State.WarmedH.refl s).since 0) (Nat.zero_le _) hx hlk (t := .boolean) Bd.returns (by simp) (hb hby at_257) ⟨rfl, N_51⟩ (by decide) (by decide)
            · refine GoesW.step (fun _ k => XS.ifNo X80.here hx rfl (hb hby at_236) rfl ((if0 _ _).trans (feq hc236).1) k) ?_
              show GoesW p e below s _ _ _ T80 (mkF m 239 #[.val (.int p1), .val (.int p2), .val (.int p3), .val (.int (4 : Int32)), .val (.int c0), .val (.int c1), .val (.int c2), .val (.int c3), .val (.ref b45), .val (.int (1 : Int32))] [])
              refine GoesW.step (fun _ k => XS.iconst X80.here hx rfl (hb hby at_239) k) ?_
              refine GoesW.step (fun _ k => XS.istore X80.here hx rfl (hb hby at_240) rfl (l' := #[.val (.int p1), .val (.int p2), .val (.int p3), .val (.int (4 : Int32)), .val (.int c0), .val (.int c1), .val (.int c2), .val (.int c3), .val (.ref b45), .val (.int (0 : Int32))]) rfl k) ?_
              refine GoesW.step (fun _ k => XS.aload X80.here hx rfl (hb hby at_242) rfl rfl k) ?_
              show GoesW p e below s _ _ _ T80 (mkF m 244 #[.val (.int p1), .val (.int p2), .val (.int p3), .val (.int (4 : Int32)), .val (.int c0), .val (.int c1), .val (.int c2), .val (.int c3), .val (.ref b45), .val (.int (0 : Int32))] [(.ref b45)])
              obtain ⟨T82, X82, e82, st82⟩ := own_pure (r := some (.int (own_ix (fun i => f16 ((own_cs c0 c1 c2 c3) i)) 4 0))) (fun _ _ _ q => q) (callX X80 hx hZ (y := (⟨"com/example/cartouche/cartouche/ControlCharacters", "indexIn", "(Ljava/lang/String;)I"⟩ : MethodName)) hown (hw _ (List.mem_of_getElem? (i := 36) rfl)) (hw _ (List.mem_of_getElem? (i := 37) rfl)) (hw _ (List.mem_of_getElem? (i := 38) rfl)) (hw _ (List.mem_of_getElem? (i := 39) rfl)) (by decide) (W := 0) (argsL := [(.ref b45)]) (rest := []) (rm8n4 l Z a0 hw [] b45 G1 oF (own_cs c0 c1 c2 c3) h51 n0 z_51 O2 P3 (OL.keep K_51 all0) O4 O5 O6 O7 hT51) (by decide) (by decide) (by decide) (by decide) e80 (g := (mkF m 244 #[.val (.int p1), .val (.int p2), .val (.int p3), .val (.int (4 : Int32)), .val (.int c0), .val (.int c1), .val (.int c2), .val (.int c3), .val (.ref b45), .val (.int (0 : Int32))] [(.ref b45)])) rfl (by rw [hml]; rfl) (lenOf pd_0_1 rfl) rfl (by show 2 * 0 + _ ≤ _; exact Nat.le_of_eq rfl) (hb hby at_244))
              refine GoesW.step st82 ?_
              show GoesW p e below s _ _ _ T82 (mkF m 247 #[.val (.int p1), .val (.int p2), .val (.int p3), .val (.int (4 : Int32)), .val (.int c0), .val (.int c1), .val (.int c2), .val (.int c3), .val (.ref b45), .val (.int (0 : Int32))] [(.int (own_ix (fun i => f16 ((own_cs c0 c1 c2 c3) i)) 4 0))])
              refine GoesW.step (fun _ k => XS.iload X82.here hx rfl (hb hby at_247) rfl k) ?_
              refine GoesW.step (fun _ k => XS.icmpNo X82.here hx rfl (hb hby at_249) rfl (teq (by rw [own_x4]; simp [own_cs, own_same, hc189, hc205, hc221, hc236])).2 k) ?_
              show GoesW p e below s _ _ _ T82 (mkF m 252 #[.val (.int p1), .val (.int p2), .val (.int p3), .val (.int (4 : Int32)), .val (.int c0), .val (.int c1), .val (.int c2), .val (.int c3), .val (.ref b45), .val (.int (0 : Int32))] [])
              refine GoesW.step (fun _ k => XS.iconst X82.here hx rfl (hb hby at_252) k) ?_
              refine GoesW.step (fun _ k => XS.goto X82.here hx rfl (pc0 := 253) (pc' := 257) rfl (hb hby at_253) (by decide) (by decide) k) ?_
              show GoesW p e below s _ _ _ T82 (mkF m 257 #[.val (.int p1), .val (.int p2), .val (.int p3), .val (.int (4 : Int32)), .val (.int c0), .val (.int c1), .val (.int c2), .val (.int c3), .val (.ref b45), .val (.int (0 : Int32))] [(.int (1 : Int32))])
              exact GoesW.outN (s := s) (vm₁ := s.vm) X82 ((State.WarmedH.refl s).since 0) (Nat.zero_le _) hx hlk (t := .boolean) Bd.returns (by simp) (hb hby at_257) ⟨rfl, N_51⟩ (by decide) (by decide)
set_option maxRecDepth 65536 in
set_option maxHeartbeats 40000000 in
theorem comes_1 {Post : Tables → Env → Array Value → State → Outcome → State → Prop} (hpost : ∀ tb e args s v u, (limb_1_1.after args s (.returned v) u = true ∧ limb_1_2.after args s (.returned v) u = true ∧ True) → FramedW s (.returned v) u (Jvm.fieldLocs frame_1_writes args s ++ Jvm.arrayLocs frame_1_arrays args s ++ Jvm.staticLocs frame_1_statics s) 24 1152 → Post tb e args s (.returned v) u) :
    ArmFor flags0 classFile x code maxLocals ret World_1 tables_1 room_1 Calls_1 rest_1 Pre_1 Post := by
  intro l hfl _ _ p e ha hc hk s m args below hf hA hF happ hP
  obtain ⟨hcalls, hrest, hpre⟩ := hP
  obtain ⟨-, -, -, hnamed, -, -, -, hat⟩ := (Spec.applies_iff hf).mp happ
  obtain ⟨hg, hn⟩ := and_e (Cond.before_iff.mp (show (Jvm.Cond.and given_1 narrow_1).before args s = true from hpre))
  obtain ⟨hcnt, g0⟩ := and_e hg
  obtain ⟨i0, g1⟩ := and_e g0
  obtain ⟨i1, g2⟩ := and_e g1
  have i2 := g2
  obtain ⟨w0, w1, w2, rfl⟩ : ∃ w0 w1 w2 : Value, args = #[w0, w1, w2] := by
    have hs : args.size = 3 := by simpa [Cond.value, given_1] using hcnt
    obtain ⟨L⟩ := args
    match L, hs with
    | [w0, w1, w2], _ => exact ⟨w0, w1, w2, rfl⟩
  have hw := fun d (hd : d ∈ tables_1) => atoms_spec (ws := Jvm.Cond.code x code maxLocals ret :: tables_1) hat d (List.mem_cons_of_mem _ hd)
  obtain ⟨z0, e0⟩ := is_v i0
  obtain rfl : w0 = (.int z0) := Option.some.inj e0
  obtain ⟨z1, e1⟩ := is_v i1
  obtain rfl : w1 = (.int z1) := Option.some.inj e1
  obtain ⟨z2, e2⟩ := is_v i2
  obtain rfl : w2 = (.int z2) := Option.some.inj e2
  obtain ⟨hsets, hown0⟩ := atoms_of _ (rest_1_c_eq ▸ (show rest_1_c.before _ s = true from hrest))
  have n5 := not_v (Cond.before_iff.mp (hsets _ (List.mem_of_getElem? (i := 2) rfl)))
  obtain ⟨i11, e10⟩ := is_v (Cond.before_iff.mp (hsets _ (List.mem_of_getElem? (i := 1) rfl)))
  have S12 : Sta s s.heap "java/lang/String" "COMPACT_STRINGS" "Z" (.int i11) := Sta.start e10 (Or.inl (hsets _ (List.mem_of_getElem? (i := 0) rfl)))
  have c17 : ¬ (i11 = (0 : Int32)) := gotF (Cond.eq_ints e10 (Term.int_eval (0))) n5
  obtain ⟨o13, e13⟩ : ∃ oF : Option Addr, (Term.static "jdk/internal/util/Preconditions" "SIOOBE_FORMATTER" "Ljava/util/function/BiFunction;").eval _ s none [] s = some (ov oF) := own_isref (Cond.before_iff.mp (hsets _ (List.mem_of_getElem? (i := 8) rfl)))
  have S14 : Sta s s.heap "jdk/internal/util/Preconditions" "SIOOBE_FORMATTER" "Ljava/util/function/BiFunction;" (ov o13) := Sta.start e13 (Or.inl (hsets _ (List.mem_of_getElem? (i := 7) rfl)))
  have S15 : Sta s s.heap "java/lang/StringUTF16" "$assertionsDisabled" "Z" (.int (1 : Int32)) := Sta.start (Jvm.Free.NT.SwA.eq_int (hsets _ (List.mem_of_getElem? (i := 12) rfl))) (Or.inl (hsets _ (List.mem_of_getElem? (i := 11) rfl)))
  have S16 : Sta s s.heap "java/lang/StringUTF16" "HI_BYTE_SHIFT" "I" (.int (0 : Int32)) := Sta.start (Jvm.Free.NT.SwA.eq_int (hsets _ (List.mem_of_getElem? (i := 15) rfl))) (Or.inl (hsets _ (List.mem_of_getElem? (i := 14) rfl)))
  have S17 : Sta s s.heap "java/lang/StringUTF16" "LO_BYTE_SHIFT" "I" (.int (8 : Int32)) := Sta.start (Jvm.Free.NT.SwA.eq_int (hsets _ (List.mem_of_getElem? (i := 18) rfl))) (Or.inl (hsets _ (List.mem_of_getElem? (i := 17) rfl)))
  have hc1 : Jvm.Lit.constHeld s "java/lang/String" 7 := hcalls.1 _ (List.mem_of_getElem? (i := 0) rfl)
  have hcw := hsets _ (List.mem_of_getElem? (i := 2) rfl)
  obtain ⟨n, o, h1, h2, h3, v, L, rfl, ⟨rfl, N⟩, hq⟩ := rm0 l s _ hw tables_1 z0 z1 z2 i11 o13 s.heap s.heap.size (Nat.le_refl _) S12 c17 (Old.start s) S14 S15 S16 S17 hc1 hcw p e ha hc hk s m _ below hf ((Spec.applies_iff_loose hf).mp happ).1 ⟨rfl, State.Warmed39.refl s, rfl, rfl⟩ trivial
  refine ⟨n, _, h1, h2, h3, hpost _ _ _ _ _ _ ⟨Cond.after_iff.mpr rfl, Cond.after_iff.mpr (eq_i res_at (Term.int_eval (1)) rfl), trivial⟩ ⟨hq.1, hq.2.1, hq.2.2.1, (hq.2.2.2.sift fun y hy => Or.inr (N y hy)).mono (by decide) (by decide)⟩⟩
theorem main_1_1 : Claimed_1_1 := comes_1 fun _ _ _ _ _ _ h hF => ⟨h.1, hF⟩
theorem main_1_2 : Claimed_1_2 := comes_1 fun _ _ _ _ _ _ h hF => ⟨h.2.1, hF⟩
end Jvm.Pilot.@@N@@
namespace Jvm.Pilot.@@N@@
open Jvm Jvm.ClassFile Sem Op Lib Jvm.Free Jvm.Stand Jvm.Pilot.@@N@@.Jvm.D
/-! MADE BY PROGRAM (witnessworld.py) out of the Statement's table words and the real class files: 20 classes; the members and pool entries that the words name. The judged class is class 1, her method 2. -/
namespace start1
open Jvm.ClassFile
def u (s : String) : CpInfo := .utf8 (stringToUtf16 s)
/-- a pool by its gaps: so many unusable entries, then the entry; so many at the end -/
def gap : Nat → List CpInfo → List CpInfo
  | 0, r => r
  | n + 1, r => .unusable :: gap n r
def poolList (es : List (Nat × CpInfo)) (last : Nat) : List CpInfo := es.foldr (fun e r => gap e.1 (e.2 :: r)) (gap last [])
def pool (es : List (Nat × CpInfo)) (last : Nat) : Array CpInfo := ⟨poolList es last⟩
def fileOf (pool : Array CpInfo) (this : Nat) (attrs : Array Attribute := #[]) (ms : Array MethodInfo := #[]) (fl : Nat := 33) (sup : Nat := 0) (ifs : Array Nat := #[]) (fds : Array FieldInfo := #[]) : ClassFile where
  minorVersion := 0
  majorVersion := 65
  constantPool := pool
  accessFlags := fl
  thisClass := this
  superClass := sup
  interfaces := ifs
  fields := fds
  methods := ms
  attributes := attrs
def plain (name : String) (sup : Option ClassId) : Class where
  name := name
  kind := .ordinary
  loader := none
  accessFlags := 33
  super := sup
  interfaces := #[]
  cf := none
  fields := #[]
  methods := #[]
  instanceTypes := #[]
  staticTypes := #[]
  resolved := #[]
  callSites := []
  init := .initialized
  statics := none
  mirror := none

def pool0 : Array CpInfo := pool [(5, u "<init>"), (0, u "()V"), (1, .class_ 10), (1, u "java/lang/Object")] 113

def k0c0 : Code := { maxStack := 0, maxLocals := 1, code := object_method_1_code, exceptionTable := #[], attributes := #[] }
def k0m0 : Method := { name := "<init>", desc := "()V", sig := { parameters := [], returnType := none }, accessFlags := 1, code := some k0c0 }
/-- java/lang/Object -/
def k0 : Class := { plain "java/lang/Object" none with
  accessFlags := 33
  interfaces := #[]
  cf := some (fileOf pool0 8 #[] #[{ accessFlags := 1, nameIndex := 5, descriptorIndex := 6, attributes := #[] }] 33 0 #[] #[])
  fields := #[]
  methods := #[k0m0]
  instanceTypes := #[]
  staticTypes := #[]
  resolved := Array.replicate 124 none
  statics := none }

def pool1 : Array CpInfo := pool [(2, .class_ 4), (1, u "java/lang/Object"), (0, u "<init>"), (0, u "()V"), (0, .integer 2147483647), (0, .integer 65535), (0, .class_ 10), (0, u "java/lang/String"), (0, .methodref 9 12), (0, .nameAndType 5 13), (0, u "([C)V"), (0, .methodref 15 16), (0, .class_ 17), (0, .nameAndType 18 19), (0, u "com/example/cartouche/cartouche/ControlCharactersIndexInPinLaw"), (0, u "ctrl"), (0, u "(C)Z"), (0, .methodref 21 22), (0, .class_ 23), (0, .nameAndType 24 25), (0, u "com/example/cartouche/cartouche/ControlCharacters"), (0, u "indexIn"), (0, u "(Ljava/lang/String;)I"), (3, u "law"), (0, u "(III)Z")] 2

def k1m0 : Method := { name := "<init>", desc := "()V", sig := { parameters := [], returnType := none }, accessFlags := 2, code := none }
def k1c1 : Code := { maxStack := 2, maxLocals := 1, code := method_2_code, exceptionTable := #[], attributes := #[] }
def k1m1 : Method := { name := "ctrl", desc := "(C)Z", sig := { parameters := [.char], returnType := some .boolean }, accessFlags := 10, code := some k1c1 }
def k1c2 : Code := { maxStack := 6, maxLocals := 10, code := code, exceptionTable := #[], attributes := #[] }
def k1m2 : Method := { name := "law", desc := "(III)Z", sig := { parameters := [.int, .int, .int], returnType := some .boolean }, accessFlags := 9, code := some k1c2 }
/-- com/example/cartouche/cartouche/ControlCharactersIndexInPinLaw -/
def k1 : Class := { plain "com/example/cartouche/cartouche/ControlCharactersIndexInPinLaw" (some 0) with
  accessFlags := 49
  interfaces := #[]
  cf := some (fileOf pool1 15 #[] #[{ accessFlags := 2, nameIndex := 5, descriptorIndex := 6, attributes := #[] }, { accessFlags := 10, nameIndex := 18, descriptorIndex := 19, attributes := #[] }, { accessFlags := 9, nameIndex := 29, descriptorIndex := 30, attributes := #[] }] 49 2 #[] #[])
  fields := #[]
  methods := #[k1m0, k1m1, k1m2]
  instanceTypes := #[]
  staticTypes := #[]
  resolved := Array.replicate 33 none
  statics := none }

def pool2 : Array CpInfo := pool [(1, .class_ 2), (0, u "java/io/Serializable"), (0, .class_ 4), (0, u "java/lang/Object")] 2

/-- java/io/Serializable -/
def k2 : Class := { plain "java/io/Serializable" (some 0) with
  accessFlags := 1537
  interfaces := #[]
  cf := some (fileOf pool2 1 #[] #[] 1537 3 #[] #[])
  fields := #[]
  methods := #[]
  instanceTypes := #[]
  staticTypes := #[]
  resolved := Array.replicate 7 none
  statics := none }

def pool3 : Array CpInfo := pool [(1, .class_ 2), (0, u "java/lang/Comparable"), (0, .class_ 4), (0, u "java/lang/Object")] 7

/-- java/lang/Comparable -/
def k3 : Class := { plain "java/lang/Comparable" (some 0) with
  accessFlags := 1537
  interfaces := #[]
  cf := some (fileOf pool3 1 #[] #[] 1537 3 #[] #[])
  fields := #[]
  methods := #[]
  instanceTypes := #[]
  staticTypes := #[]
  resolved := Array.replicate 12 none
  statics := none }

def pool4 : Array CpInfo := pool [(2, .class_ 4), (1, u "java/lang/CharSequence"), (42, .class_ 48), (0, u "java/lang/CharSequence$1CodePointIterator"), (10, .class_ 60), (0, u "java/lang/CharSequence$1CharIterator"), (5, .class_ 67), (0, u "java/lang/Object")] 63

/-- java/lang/CharSequence -/
def k4 : Class := { plain "java/lang/CharSequence" (some 0) with
  accessFlags := 1537
  interfaces := #[]
  cf := some (fileOf pool4 2 #[.nestMembers #[47, 59]] #[] 1537 66 #[] #[])
  fields := #[]
  methods := #[]
  instanceTypes := #[]
  staticTypes := #[]
  resolved := Array.replicate 131 none
  statics := none }

def pool5 : Array CpInfo := pool [(1, .class_ 2), (0, u "java/lang/constant/Constable"), (0, .class_ 4), (0, u "java/lang/Object")] 6

/-- java/lang/constant/Constable -/
def k5 : Class := { plain "java/lang/constant/Constable" (some 0) with
  accessFlags := 1537
  interfaces := #[]
  cf := some (fileOf pool5 1 #[] #[] 1537 3 #[] #[])
  fields := #[]
  methods := #[]
  instanceTypes := #[]
  staticTypes := #[]
  resolved := Array.replicate 11 none
  statics := none }

def pool6 : Array CpInfo := pool [(1, .class_ 2), (0, u "java/lang/constant/ConstantDesc"), (0, .class_ 4), (0, u "java/lang/Object")] 32

/-- java/lang/constant/ConstantDesc -/
def k6 : Class := { plain "java/lang/constant/ConstantDesc" (some 0) with
  accessFlags := 1537
  interfaces := #[]
  cf := some (fileOf pool6 1 #[] #[] 1537 3 #[] #[])
  fields := #[]
  methods := #[]
  instanceTypes := #[]
  staticTypes := #[]
  resolved := Array.replicate 37 none
  statics := none }

def pool7 : Array CpInfo := pool [(1, .methodref 2 3), (0, .class_ 4), (0, .nameAndType 5 6), (0, u "java/lang/Object"), (0, u "<init>"), (0, u "()V"), (0, .string 8), (0, u ""), (0, .fieldref 10 11), (0, .class_ 12), (0, .nameAndType 13 14), (0, u "java/lang/String"), (0, u "value"), (0, u "[B"), (0, .fieldref 10 16), (0, .nameAndType 17 18), (0, u "coder"), (0, u "B"), (2, u "hash"), (0, u "I"), (2, u "hashIsZero"), (0, u "Z"), (0, .methodref 10 28), (0, .nameAndType 5 29), (0, u "([CIILjava/lang/Void;)V"), (8, .fieldref 10 39), (0, .nameAndType 40 26), (0, u "COMPACT_STRINGS"), (1, .class_ 44), (1, u "java/lang/StringUTF16"), (0, u "compress"), (1, .methodref 42 48), (0, .nameAndType 49 50), (0, u "coderFromArrayLen"), (0, u "([BI)B"), (56, .class_ 109), (1, u "java/lang/StringLatin1"), (32, u "()Z"), (34, .methodref 42 178), (0, .nameAndType 45 179), (0, u "([CII)[B"), (154, u "()I"), (0, .methodref 10 336), (0, .nameAndType 17 337), (0, u "()B"), (25, u "([BI)C"), (27, u "(II)V"), (35, u "(I)C"), (64, .methodref 10 493), (0, .nameAndType 494 142), (0, u "isLatin1"), (0, .methodref 107 496), (0, .nameAndType 497 363), (0, u "charAt"), (0, .methodref 42 496), (2, u "checkIndex"), (5, u "length"), (67, .class_ 576), (0, u "java/lang/CharSequence"), (22, u "CASE_INSENSITIVE_ORDER"), (0, u "Ljava/util/Comparator;"), (409, u "([C)V"), (42, .fieldref 1054 1055), (0, .class_ 1056), (0, .nameAndType 1057 1058), (0, u "jdk/internal/util/Preconditions"), (0, u "SIOOBE_FORMATTER"), (0, u "Ljava/util/function/BiFunction;"), (0, .methodref 1054 1060), (0, .nameAndType 501 1061), (0, u "(IILjava/util/function/BiFunction;)I"), (39, u "serialPersistentFields"), (0, u "[Ljava/io/ObjectStreamField;"), (0, .class_ 1104), (0, u "java/lang/String$CaseInsensitiveComparator"), (1, .class_ 1107), (0, u "java/io/Serializable"), (0, .class_ 1109), (0, u "java/lang/Comparable"), (0, .class_ 1111), (0, u "java/lang/constant/Constable"), (0, .class_ 1113), (0, u "java/lang/constant/ConstantDesc"), (2, u "serialVersionUID"), (0, u "J"), (3, u "REPL"), (0, u "C"), (2, u "LATIN1"), (1, u "UTF16")] 323

def k7m0 : Method := { name := "<init>", desc := "()V", sig := { parameters := [], returnType := none }, accessFlags := 1, code := none }
def k7c1 : Code := { maxStack := 5, maxLocals := 2, code := jdk_42_method_3_code, exceptionTable := #[], attributes := #[] }
def k7m1 : Method := { name := "<init>", desc := "([C)V", sig := { parameters := [(.array .char)], returnType := none }, accessFlags := 1, code := some k7c1 }
def k7c2 : Code := { maxStack := 2, maxLocals := 1, code := jdk_42_method_54_code, exceptionTable := #[], attributes := #[] }
def k7m2 : Method := { name := "length", desc := "()I", sig := { parameters := [], returnType := some .int }, accessFlags := 1, code := some k7c2 }
def k7c3 : Code := { maxStack := 2, maxLocals := 2, code := jdk_42_method_56_code, exceptionTable := #[], attributes := #[] }
def k7m3 : Method := { name := "charAt", desc := "(I)C", sig := { parameters := [.int], returnType := some .char }, accessFlags := 1, code := some k7c3 }
def k7c4 : Code := { maxStack := 4, maxLocals := 6, code := jdk_42_method_149_code, exceptionTable := #[], attributes := #[] }
def k7m4 : Method := { name := "<init>", desc := "([CIILjava/lang/Void;)V", sig := { parameters := [(.array .char), .int, .int, (.object "java/lang/Void")], returnType := none }, accessFlags := 2, code := some k7c4 }
def k7c5 : Code := { maxStack := 1, maxLocals := 1, code := jdk_42_method_152_code, exceptionTable := #[], attributes := #[] }
def k7m5 : Method := { name := "coder", desc := "()B", sig := { parameters := [], returnType := some .byte }, accessFlags := 0, code := some k7c5 }
def k7c6 : Code := { maxStack := 1, maxLocals := 1, code := jdk_42_method_154_code, exceptionTable := #[], attributes := #[] }
def k7m6 : Method := { name := "isLatin1", desc := "()Z", sig := { parameters := [], returnType := some .boolean }, accessFlags := 0, code := some k7c6 }
def k7c7 : Code := { maxStack := 3, maxLocals := 2, code := jdk_42_method_155_code, exceptionTable := #[], attributes := #[] }
def k7m7 : Method := { name := "checkIndex", desc := "(II)V", sig := { parameters := [.int, .int], returnType := none }, accessFlags := 8, code := some k7c7 }
/-- java/lang/String -/
def k7 : Class := { plain "java/lang/String" (some 0) with
  accessFlags := 49
  interfaces := #[2, 3, 4, 5, 6]
  cf := some (fileOf pool7 10 #[.nestMembers #[1103]] #[{ accessFlags := 1, nameIndex := 5, descriptorIndex := 6, attributes := #[] }, { accessFlags := 1, nameIndex := 5, descriptorIndex := 1010, attributes := #[] }, { accessFlags := 1, nameIndex := 507, descriptorIndex := 334, attributes := #[] }, { accessFlags := 1, nameIndex := 497, descriptorIndex := 427, attributes := #[] }, { accessFlags := 2, nameIndex := 5, descriptorIndex := 29, attributes := #[] }, { accessFlags := 0, nameIndex := 17, descriptorIndex := 337, attributes := #[] }, { accessFlags := 0, nameIndex := 494, descriptorIndex := 142, attributes := #[] }, { accessFlags := 8, nameIndex := 501, descriptorIndex := 391, attributes := #[] }] 49 2 #[1106, 1108, 575, 1110, 1112] #[{ accessFlags := 18, nameIndex := 13, descriptorIndex := 14, attributes := #[] }, { accessFlags := 18, nameIndex := 17, descriptorIndex := 18, attributes := #[] }, { accessFlags := 2, nameIndex := 21, descriptorIndex := 22, attributes := #[] }, { accessFlags := 2, nameIndex := 25, descriptorIndex := 26, attributes := #[] }, { accessFlags := 26, nameIndex := 1116, descriptorIndex := 1117, attributes := #[] }, { accessFlags := 24, nameIndex := 40, descriptorIndex := 26, attributes := #[] }, { accessFlags := 26, nameIndex := 1101, descriptorIndex := 1102, attributes := #[] }, { accessFlags := 26, nameIndex := 1121, descriptorIndex := 1122, attributes := #[] }, { accessFlags := 25, nameIndex := 599, descriptorIndex := 600, attributes := #[] }, { accessFlags := 24, nameIndex := 1125, descriptorIndex := 18, attributes := #[] }, { accessFlags := 24, nameIndex := 1127, descriptorIndex := 18, attributes := #[] }])
  fields := #[{ name := "value", type := (.array .byte), accessFlags := 18, slot := 0, constantValue := 0 }, { name := "coder", type := .byte, accessFlags := 18, slot := 1, constantValue := 0 }, { name := "hash", type := .int, accessFlags := 2, slot := 2, constantValue := 0 }, { name := "hashIsZero", type := .boolean, accessFlags := 2, slot := 3, constantValue := 0 }, { name := "serialVersionUID", type := .long, accessFlags := 26, slot := 0, constantValue := 0 }, { name := "COMPACT_STRINGS", type := .boolean, accessFlags := 24, slot := 1, constantValue := 0 }, { name := "serialPersistentFields", type := (.array (.object "java/io/ObjectStreamField")), accessFlags := 26, slot := 2, constantValue := 0 }, { name := "REPL", type := .char, accessFlags := 26, slot := 3, constantValue := 0 }, { name := "CASE_INSENSITIVE_ORDER", type := (.object "java/util/Comparator"), accessFlags := 25, slot := 4, constantValue := 0 }, { name := "LATIN1", type := .byte, accessFlags := 24, slot := 5, constantValue := 0 }, { name := "UTF16", type := .byte, accessFlags := 24, slot := 6, constantValue := 0 }]
  methods := #[k7m0, k7m1, k7m2, k7m3, k7m4, k7m5, k7m6, k7m7]
  instanceTypes := #[(.array .byte), .byte, .int, .boolean]
  staticTypes := #[.long, .boolean, (.array (.object "java/io/ObjectStreamField")), .char, (.object "java/util/Comparator"), .byte, .byte]
  resolved := Array.replicate 1451 none
  statics := some 0 }

def pool8 : Array CpInfo := pool [(3, .class_ 4), (0, u "java/lang/String"), (1, .class_ 8), (1, u "java/lang/Object"), (0, u "<init>"), (0, u "()V"), (0, .methodref 12 13), (0, .class_ 14), (0, .nameAndType 15 16), (0, u "java/lang/StringUTF16"), (0, u "newBytesLength"), (0, u "(I)I"), (3, .integer 1073741823), (23, .fieldref 12 45), (0, .nameAndType 46 47), (0, u "$assertionsDisabled"), (0, u "Z"), (0, .methodref 12 49), (0, .nameAndType 50 51), (0, u "length"), (0, u "([B)I"), (7, .fieldref 12 60), (0, .nameAndType 61 62), (0, u "HI_BYTE_SHIFT"), (0, u "I"), (0, .fieldref 12 64), (0, .nameAndType 65 62), (0, u "LO_BYTE_SHIFT"), (1, .methodref 12 68), (0, .nameAndType 69 70), (0, u "checkIndex"), (0, u "(I[B)V"), (0, .methodref 12 72), (0, .nameAndType 73 74), (0, u "getChar"), (0, u "([BI)C"), (32, .methodref 12 108), (0, .nameAndType 109 110), (0, u "newBytesFor"), (0, u "(I)[B"), (0, .methodref 12 112), (0, .nameAndType 113 114), (0, u "putChar"), (0, u "([BII)V"), (0, .methodref 12 116), (0, .nameAndType 117 118), (0, u "compress"), (0, u "([CI[BII)I"), (0, .methodref 12 120), (0, .nameAndType 121 122), (0, u "toBytes"), (0, u "([CII)[B"), (138, u "coderFromArrayLen"), (0, u "([BI)B"), (106, .class_ 371), (1, u "java/lang/StringUTF16$LinesSpliterator"), (20, u "charAt"), (21, .methodref 3 415), (0, .nameAndType 69 416), (0, u "(II)V"), (13, u "MAX_LENGTH"), (196, .class_ 628), (0, u "java/lang/StringUTF16$CodePointsSpliterator"), (0, .class_ 630), (0, u "java/lang/StringUTF16$CharsSpliterator")] 4

def k8m0 : Method := { name := "<init>", desc := "()V", sig := { parameters := [], returnType := none }, accessFlags := 0, code := none }
def k8c1 : Code := { maxStack := 1, maxLocals := 1, code := jdk_52_method_2_code, exceptionTable := #[], attributes := #[] }
def k8m1 : Method := { name := "newBytesFor", desc := "(I)[B", sig := { parameters := [.int], returnType := some (.array .byte) }, accessFlags := 9, code := some k8c1 }
def k8c2 : Code := { maxStack := 4, maxLocals := 1, code := jdk_52_method_3_code, exceptionTable := #[], attributes := #[] }
def k8m2 : Method := { name := "newBytesLength", desc := "(I)I", sig := { parameters := [.int], returnType := some .int }, accessFlags := 9, code := some k8c2 }
def k8c3 : Code := { maxStack := 4, maxLocals := 3, code := jdk_52_method_4_code, exceptionTable := #[], attributes := #[] }
def k8m3 : Method := { name := "putChar", desc := "([BII)V", sig := { parameters := [(.array .byte), .int, .int], returnType := none }, accessFlags := 8, code := some k8c3 }
def k8c4 : Code := { maxStack := 3, maxLocals := 2, code := jdk_52_method_5_code, exceptionTable := #[], attributes := #[] }
def k8m4 : Method := { name := "getChar", desc := "([BI)C", sig := { parameters := [(.array .byte), .int], returnType := some .char }, accessFlags := 8, code := some k8c4 }
def k8c5 : Code := { maxStack := 2, maxLocals := 1, code := jdk_52_method_6_code, exceptionTable := #[], attributes := #[] }
def k8m5 : Method := { name := "length", desc := "([B)I", sig := { parameters := [(.array .byte)], returnType := some .int }, accessFlags := 9, code := some k8c5 }
def k8c6 : Code := { maxStack := 4, maxLocals := 5, code := jdk_52_method_14_code, exceptionTable := #[], attributes := #[] }
def k8m6 : Method := { name := "toBytes", desc := "([CII)[B", sig := { parameters := [(.array .char), .int, .int], returnType := some (.array .byte) }, accessFlags := 9, code := some k8c6 }
def k8c7 : Code := { maxStack := 2, maxLocals := 2, code := jdk_52_method_15_code, exceptionTable := #[], attributes := #[] }
def k8m7 : Method := { name := "coderFromArrayLen", desc := "([BI)B", sig := { parameters := [(.array .byte), .int], returnType := some .byte }, accessFlags := 8, code := some k8c7 }
def k8c8 : Code := { maxStack := 5, maxLocals := 6, code := jdk_52_method_16_code, exceptionTable := #[], attributes := #[] }
def k8m8 : Method := { name := "compress", desc := "([CII)[B", sig := { parameters := [(.array .char), .int, .int], returnType := some (.array .byte) }, accessFlags := 9, code := some k8c8 }
def k8c9 : Code := { maxStack := 3, maxLocals := 7, code := jdk_52_method_21_code, exceptionTable := #[], attributes := #[] }
def k8m9 : Method := { name := "compress", desc := "([CI[BII)I", sig := { parameters := [(.array .char), .int, (.array .byte), .int, .int], returnType := some .int }, accessFlags := 9, code := some k8c9 }
def k8c10 : Code := { maxStack := 2, maxLocals := 2, code := jdk_52_method_83_code, exceptionTable := #[], attributes := #[] }
def k8m10 : Method := { name := "charAt", desc := "([BI)C", sig := { parameters := [(.array .byte), .int], returnType := some .char }, accessFlags := 9, code := some k8c10 }
def k8c11 : Code := { maxStack := 2, maxLocals := 2, code := jdk_52_method_91_code, exceptionTable := #[], attributes := #[] }
def k8m11 : Method := { name := "checkIndex", desc := "(I[B)V", sig := { parameters := [.int, (.array .byte)], returnType := none }, accessFlags := 9, code := some k8c11 }
/-- java/lang/StringUTF16 -/
def k8 : Class := { plain "java/lang/StringUTF16" (some 0) with
  accessFlags := 48
  interfaces := #[]
  cf := some (fileOf pool8 12 #[.nestMembers #[627, 629, 369]] #[{ accessFlags := 0, nameIndex := 9, descriptorIndex := 10, attributes := #[] }, { accessFlags := 9, nameIndex := 109, descriptorIndex := 110, attributes := #[] }, { accessFlags := 9, nameIndex := 15, descriptorIndex := 16, attributes := #[] }, { accessFlags := 8, nameIndex := 113, descriptorIndex := 114, attributes := #[] }, { accessFlags := 8, nameIndex := 73, descriptorIndex := 74, attributes := #[] }, { accessFlags := 9, nameIndex := 50, descriptorIndex := 51, attributes := #[] }, { accessFlags := 9, nameIndex := 121, descriptorIndex := 122, attributes := #[] }, { accessFlags := 8, nameIndex := 261, descriptorIndex := 262, attributes := #[] }, { accessFlags := 9, nameIndex := 117, descriptorIndex := 122, attributes := #[] }, { accessFlags := 9, nameIndex := 117, descriptorIndex := 118, attributes := #[] }, { accessFlags := 9, nameIndex := 392, descriptorIndex := 74, attributes := #[] }, { accessFlags := 9, nameIndex := 69, descriptorIndex := 70, attributes := #[] }] 48 6 #[] #[{ accessFlags := 26, nameIndex := 61, descriptorIndex := 62, attributes := #[] }, { accessFlags := 26, nameIndex := 65, descriptorIndex := 62, attributes := #[] }, { accessFlags := 24, nameIndex := 430, descriptorIndex := 62, attributes := #[] }, { accessFlags := 4120, nameIndex := 46, descriptorIndex := 47, attributes := #[] }])
  fields := #[{ name := "HI_BYTE_SHIFT", type := .int, accessFlags := 26, slot := 0, constantValue := 0 }, { name := "LO_BYTE_SHIFT", type := .int, accessFlags := 26, slot := 1, constantValue := 0 }, { name := "MAX_LENGTH", type := .int, accessFlags := 24, slot := 2, constantValue := 0 }, { name := "$assertionsDisabled", type := .boolean, accessFlags := 4120, slot := 3, constantValue := 0 }]
  methods := #[k8m0, k8m1, k8m2, k8m3, k8m4, k8m5, k8m6, k8m7, k8m8, k8m9, k8m10, k8m11]
  instanceTypes := #[]
  staticTypes := #[.int, .int, .int, .boolean]
  resolved := Array.replicate 635 none
  statics := some 1 }

def pool9 : Array CpInfo := pool [(2, .class_ 4), (1, u "java/lang/Object"), (0, u "<init>"), (0, u "()V"), (1, .class_ 10), (1, u "com/example/cartouche/cartouche/ControlCharacters"), (0, u "indexIn"), (0, u "(Ljava/lang/String;)I"), (2, .methodref 16 17), (0, .class_ 18), (0, .nameAndType 19 20), (0, u "java/lang/String"), (0, u "length"), (0, u "()I"), (7, .methodref 16 29), (0, .nameAndType 30 31), (0, u "charAt"), (0, u "(I)C"), (0, .methodref 8 33), (0, .nameAndType 34 35), (0, u "isControl"), (0, u "(C)Z"), (18, u "HEX_DIGITS"), (0, u "Ljava/lang/String;")] 8

def k9m0 : Method := { name := "<init>", desc := "()V", sig := { parameters := [], returnType := none }, accessFlags := 2, code := none }
def k9c1 : Code := { maxStack := 2, maxLocals := 2, code := prog_1_method_4_code, exceptionTable := #[], attributes := #[] }
def k9m1 : Method := { name := "indexIn", desc := "(Ljava/lang/String;)I", sig := { parameters := [(.object "java/lang/String")], returnType := some .int }, accessFlags := 8, code := some k9c1 }
def k9c2 : Code := { maxStack := 2, maxLocals := 1, code := prog_1_method_5_code, exceptionTable := #[], attributes := #[] }
def k9m2 : Method := { name := "isControl", desc := "(C)Z", sig := { parameters := [.char], returnType := some .boolean }, accessFlags := 10, code := some k9c2 }
/-- com/example/cartouche/cartouche/ControlCharacters -/
def k9 : Class := { plain "com/example/cartouche/cartouche/ControlCharacters" (some 0) with
  accessFlags := 49
  interfaces := #[]
  cf := some (fileOf pool9 8 #[] #[{ accessFlags := 2, nameIndex := 5, descriptorIndex := 6, attributes := #[] }, { accessFlags := 8, nameIndex := 11, descriptorIndex := 12, attributes := #[] }, { accessFlags := 10, nameIndex := 34, descriptorIndex := 35, attributes := #[] }] 49 2 #[] #[{ accessFlags := 26, nameIndex := 54, descriptorIndex := 55, attributes := #[] }])
  fields := #[{ name := "HEX_DIGITS", type := (.object "java/lang/String"), accessFlags := 26, slot := 0, constantValue := 0 }]
  methods := #[k9m0, k9m1, k9m2]
  instanceTypes := #[]
  staticTypes := #[(.object "java/lang/String")]
  resolved := Array.replicate 64 none
  statics := none }

def pool10 : Array CpInfo := pool [(1, .class_ 2), (0, u "java/lang/String"), (1, .class_ 6), (1, u "java/lang/Object"), (0, u "<init>"), (0, u "()V"), (0, .methodref 1 10), (0, .nameAndType 11 12), (0, u "checkIndex"), (0, u "(II)V"), (1, .class_ 16), (1, u "java/lang/StringLatin1"), (36, u "([BI)C"), (67, u "$assertionsDisabled"), (0, u "Z"), (98, .class_ 223), (1, u "java/lang/StringLatin1$LinesSpliterator"), (28, u "charAt"), (137, .class_ 391), (0, u "java/lang/StringLatin1$CharsSpliterator")] 3

def k10m0 : Method := { name := "<init>", desc := "()V", sig := { parameters := [], returnType := none }, accessFlags := 0, code := none }
def k10c1 : Code := { maxStack := 2, maxLocals := 2, code := jdk_43_method_2_code, exceptionTable := #[], attributes := #[] }
def k10m1 : Method := { name := "charAt", desc := "([BI)C", sig := { parameters := [(.array .byte), .int], returnType := some .char }, accessFlags := 9, code := some k10c1 }
/-- java/lang/StringLatin1 -/
def k10 : Class := { plain "java/lang/StringLatin1" (some 0) with
  accessFlags := 48
  interfaces := #[]
  cf := some (fileOf pool10 14 #[.nestMembers #[390, 221]] #[{ accessFlags := 0, nameIndex := 7, descriptorIndex := 8, attributes := #[] }, { accessFlags := 9, nameIndex := 252, descriptorIndex := 53, attributes := #[] }] 48 4 #[] #[{ accessFlags := 4120, nameIndex := 121, descriptorIndex := 122, attributes := #[] }])
  fields := #[{ name := "$assertionsDisabled", type := .boolean, accessFlags := 4120, slot := 0, constantValue := 0 }]
  methods := #[k10m0, k10m1]
  instanceTypes := #[]
  staticTypes := #[.boolean]
  resolved := Array.replicate 395 none
  statics := none }

def pool11 : Array CpInfo := pool [(2, .class_ 4), (1, u "java/lang/Object"), (0, u "<init>"), (0, u "()V"), (17, .class_ 26), (1, u "jdk/internal/util/Preconditions"), (6, u "checkIndex"), (21, .class_ 56), (0, u "jdk/internal/util/Preconditions$4"), (57, .class_ 115), (0, u "jdk/internal/util/Preconditions$1"), (7, u "SIOOBE_FORMATTER"), (0, u "Ljava/util/function/BiFunction;"), (0, .class_ 126), (0, u "jdk/internal/util/Preconditions$2"), (3, u "AIOOBE_FORMATTER"), (0, .class_ 132), (0, u "jdk/internal/util/Preconditions$3"), (3, u "IOOBE_FORMATTER"), (41, u "(IILjava/util/function/BiFunction;)I")] 15

def k11m0 : Method := { name := "<init>", desc := "()V", sig := { parameters := [], returnType := none }, accessFlags := 1, code := none }
def k11c1 : Code := { maxStack := 3, maxLocals := 3, code := jdk_41_method_11_code, exceptionTable := #[], attributes := #[] }
def k11m1 : Method := { name := "checkIndex", desc := "(IILjava/util/function/BiFunction;)I", sig := { parameters := [.int, .int, (.object "java/util/function/BiFunction")], returnType := some .int }, accessFlags := 9, code := some k11c1 }
/-- jdk/internal/util/Preconditions -/
def k11 : Class := { plain "jdk/internal/util/Preconditions" (some 0) with
  accessFlags := 33
  interfaces := #[]
  cf := some (fileOf pool11 24 #[.nestMembers #[55, 131, 125, 114]] #[{ accessFlags := 1, nameIndex := 5, descriptorIndex := 6, attributes := #[] }, { accessFlags := 9, nameIndex := 33, descriptorIndex := 178, attributes := #[] }] 33 2 #[] #[{ accessFlags := 25, nameIndex := 123, descriptorIndex := 124, attributes := #[] }, { accessFlags := 25, nameIndex := 130, descriptorIndex := 124, attributes := #[] }, { accessFlags := 25, nameIndex := 136, descriptorIndex := 124, attributes := #[] }])
  fields := #[{ name := "SIOOBE_FORMATTER", type := (.object "java/util/function/BiFunction"), accessFlags := 25, slot := 0, constantValue := 0 }, { name := "AIOOBE_FORMATTER", type := (.object "java/util/function/BiFunction"), accessFlags := 25, slot := 1, constantValue := 0 }, { name := "IOOBE_FORMATTER", type := (.object "java/util/function/BiFunction"), accessFlags := 25, slot := 2, constantValue := 0 }]
  methods := #[k11m0, k11m1]
  instanceTypes := #[]
  staticTypes := #[(.object "java/util/function/BiFunction"), (.object "java/util/function/BiFunction"), (.object "java/util/function/BiFunction")]
  resolved := Array.replicate 194 none
  statics := some 2 }

def pool12 : Array CpInfo := pool [(9, u "<init>"), (6, .class_ 18), (1, u "java/lang/Object"), (0, u "()V"), (1, .class_ 23), (1, u "jdk/internal/util/ArraysSupport"), (0, u "LOG2_ARRAY_LONG_INDEX_SCALE"), (0, u "I"), (2, u "U"), (0, u "Ljdk/internal/misc/Unsafe;"), (8, u "BIG_ENDIAN"), (0, u "Z"), (8, u "LOG2_BYTE_BIT_SIZE"), (4, u "LOG2_ARRAY_INT_INDEX_SCALE"), (54, u "JLA"), (0, u "Ljdk/internal/access/JavaLangAccess;"), (11, u "LOG2_ARRAY_BOOLEAN_INDEX_SCALE"), (9, u "LOG2_ARRAY_BYTE_INDEX_SCALE"), (5, u "LOG2_ARRAY_CHAR_INDEX_SCALE"), (5, u "LOG2_ARRAY_SHORT_INDEX_SCALE"), (18, u "LOG2_ARRAY_FLOAT_INDEX_SCALE"), (24, u "LOG2_ARRAY_DOUBLE_INDEX_SCALE"), (89, u "T_BOOLEAN"), (2, u "T_CHAR"), (1, u "T_FLOAT"), (1, u "T_DOUBLE"), (1, u "T_BYTE"), (1, u "T_SHORT"), (1, u "T_INT"), (1, u "T_LONG"), (1, u "SOFT_MAX_ARRAY_LENGTH")] 83

def k12m0 : Method := { name := "<init>", desc := "()V", sig := { parameters := [], returnType := none }, accessFlags := 2, code := none }
/-- jdk/internal/util/ArraysSupport -/
def k12 : Class := { plain "jdk/internal/util/ArraysSupport" (some 0) with
  accessFlags := 33
  interfaces := #[]
  cf := some (fileOf pool12 21 #[] #[{ accessFlags := 2, nameIndex := 9, descriptorIndex := 19, attributes := #[] }] 33 16 #[] #[{ accessFlags := 24, nameIndex := 28, descriptorIndex := 29, attributes := #[] }, { accessFlags := 26, nameIndex := 38, descriptorIndex := 39, attributes := #[] }, { accessFlags := 25, nameIndex := 121, descriptorIndex := 25, attributes := #[] }, { accessFlags := 25, nameIndex := 131, descriptorIndex := 25, attributes := #[] }, { accessFlags := 25, nameIndex := 137, descriptorIndex := 25, attributes := #[] }, { accessFlags := 25, nameIndex := 143, descriptorIndex := 25, attributes := #[] }, { accessFlags := 25, nameIndex := 53, descriptorIndex := 25, attributes := #[] }, { accessFlags := 25, nameIndex := 24, descriptorIndex := 25, attributes := #[] }, { accessFlags := 25, nameIndex := 162, descriptorIndex := 25, attributes := #[] }, { accessFlags := 25, nameIndex := 187, descriptorIndex := 25, attributes := #[] }, { accessFlags := 26, nameIndex := 48, descriptorIndex := 25, attributes := #[] }, { accessFlags := 25, nameIndex := 277, descriptorIndex := 25, attributes := #[] }, { accessFlags := 25, nameIndex := 280, descriptorIndex := 25, attributes := #[] }, { accessFlags := 25, nameIndex := 282, descriptorIndex := 25, attributes := #[] }, { accessFlags := 25, nameIndex := 284, descriptorIndex := 25, attributes := #[] }, { accessFlags := 25, nameIndex := 286, descriptorIndex := 25, attributes := #[] }, { accessFlags := 25, nameIndex := 288, descriptorIndex := 25, attributes := #[] }, { accessFlags := 25, nameIndex := 290, descriptorIndex := 25, attributes := #[] }, { accessFlags := 25, nameIndex := 292, descriptorIndex := 25, attributes := #[] }, { accessFlags := 26, nameIndex := 108, descriptorIndex := 109, attributes := #[] }, { accessFlags := 25, nameIndex := 294, descriptorIndex := 25, attributes := #[] }])
  fields := #[{ name := "U", type := (.object "jdk/internal/misc/Unsafe"), accessFlags := 24, slot := 0, constantValue := 0 }, { name := "BIG_ENDIAN", type := .boolean, accessFlags := 26, slot := 1, constantValue := 0 }, { name := "LOG2_ARRAY_BOOLEAN_INDEX_SCALE", type := .int, accessFlags := 25, slot := 2, constantValue := 0 }, { name := "LOG2_ARRAY_BYTE_INDEX_SCALE", type := .int, accessFlags := 25, slot := 3, constantValue := 0 }, { name := "LOG2_ARRAY_CHAR_INDEX_SCALE", type := .int, accessFlags := 25, slot := 4, constantValue := 0 }, { name := "LOG2_ARRAY_SHORT_INDEX_SCALE", type := .int, accessFlags := 25, slot := 5, constantValue := 0 }, { name := "LOG2_ARRAY_INT_INDEX_SCALE", type := .int, accessFlags := 25, slot := 6, constantValue := 0 }, { name := "LOG2_ARRAY_LONG_INDEX_SCALE", type := .int, accessFlags := 25, slot := 7, constantValue := 0 }, { name := "LOG2_ARRAY_FLOAT_INDEX_SCALE", type := .int, accessFlags := 25, slot := 8, constantValue := 0 }, { name := "LOG2_ARRAY_DOUBLE_INDEX_SCALE", type := .int, accessFlags := 25, slot := 9, constantValue := 0 }, { name := "LOG2_BYTE_BIT_SIZE", type := .int, accessFlags := 26, slot := 10, constantValue := 0 }, { name := "T_BOOLEAN", type := .int, accessFlags := 25, slot := 11, constantValue := 0 }, { name := "T_CHAR", type := .int, accessFlags := 25, slot := 12, constantValue := 0 }, { name := "T_FLOAT", type := .int, accessFlags := 25, slot := 13, constantValue := 0 }, { name := "T_DOUBLE", type := .int, accessFlags := 25, slot := 14, constantValue := 0 }, { name := "T_BYTE", type := .int, accessFlags := 25, slot := 15, constantValue := 0 }, { name := "T_SHORT", type := .int, accessFlags := 25, slot := 16, constantValue := 0 }, { name := "T_INT", type := .int, accessFlags := 25, slot := 17, constantValue := 0 }, { name := "T_LONG", type := .int, accessFlags := 25, slot := 18, constantValue := 0 }, { name := "JLA", type := (.object "jdk/internal/access/JavaLangAccess"), accessFlags := 26, slot := 19, constantValue := 0 }, { name := "SOFT_MAX_ARRAY_LENGTH", type := .int, accessFlags := 25, slot := 20, constantValue := 0 }]
  methods := #[k12m0]
  instanceTypes := #[]
  staticTypes := #[(.object "jdk/internal/misc/Unsafe"), .boolean, .int, .int, .int, .int, .int, .int, .int, .int, .int, .int, .int, .int, .int, .int, .int, .int, .int, (.object "jdk/internal/access/JavaLangAccess"), .int]
  resolved := Array.replicate 378 none
  statics := none }

def pool13 : Array CpInfo := pool [(1, u "java/lang/Cloneable"), (0, .class_ 1), (0, u "java/lang/Object"), (0, .class_ 3)] 3

/-- java/lang/Cloneable -/
def k13 : Class := { plain "java/lang/Cloneable" (some 0) with
  accessFlags := 1537
  interfaces := #[]
  cf := some (fileOf pool13 2 #[] #[] 1537 4 #[] #[])
  fields := #[]
  methods := #[]
  instanceTypes := #[]
  staticTypes := #[]
  resolved := Array.replicate 8 none
  statics := none }

/-- the primitive byte -/
def k14 : Class := { plain "byte" none with kind := .primitive 'B', accessFlags := 0x411 }
/-- [B -/
def k15 : Class := { plain "[B" (some 0) with kind := .array 14 .byte, interfaces := #[13, 2], accessFlags := 1041 }

/-- the primitive char -/
def k16 : Class := { plain "char" none with kind := .primitive 'C', accessFlags := 0x411 }
/-- [C -/
def k17 : Class := { plain "[C" (some 0) with kind := .array 16 .char, interfaces := #[13, 2], accessFlags := 1041 }

/-- the primitive int -/
def k18 : Class := { plain "int" none with kind := .primitive 'I', accessFlags := 0x411 }
/-- [I -/
def k19 : Class := { plain "[I" (some 0) with kind := .array 18 .int, interfaces := #[13, 2], accessFlags := 1041 }

def heap : Heap := #[{ cls := 7, slots := #[.long 0, .int 1, .null, .int 0, .null, .int 0, .int 0], vm := .statics 7 },
  { cls := 8, slots := #[.int 0, .int 8, .int 0, .int 1], vm := .statics 8 },
  { cls := 11, slots := #[.null, .null, .null], vm := .statics 11 }]
def classes : Array Class := #[k0, k1, k2, k3, k4, k5, k6, k7, k8, k9, k10, k11, k12, k13, k14, k15, k16, k17, k18, k19]
def interned : List (Array UInt16 × Addr) := []
def slotsUsed : Nat := 14
def theMethod : MethodId := ⟨1, 2⟩
def args0 : Array Value := #[.int 3, .int 5, .int 4]
def aboutOver (below : List Frame) : State where
  vm := { classes := classes, interned := interned.toArray }
  heap := heap
  slotsUsed := slotsUsed
  threads := #[{ frames := .invoking theMethod args0 :: below }]
def below0 : List Frame := [.native { method := ⟨0, 0⟩, args := #[] }]
def about1 : State := aboutOver below0
def p0 : Program := .bare "" "" ""
def e0 : Env := launch0.env 0 0 0
theorem w_frames : about1.frames = Frame.invoking theMethod args0 :: below0 := rfl
set_option maxRecDepth 65536 in
theorem w_args : argsFit about1.vm theMethod args0 = true := by decide +kernel
set_option maxRecDepth 65536 in
theorem w_heap : heapFits about1 = true := by decide +kernel
set_option maxRecDepth 65536 in
theorem w_runnable : about1.curStatus? = some .runnable := by decide +kernel
set_option maxRecDepth 65536 in
theorem w_alone : about1.alone = true := by decide +kernel
set_option maxRecDepth 65536 in
theorem w_named : about1.methodNamed? x = some theMethod := by decide +kernel
set_option maxRecDepth 65536 in
theorem w_hears : about1.hears theMethod below0 = true := by decide +kernel
set_option maxRecDepth 65536 in
theorem w_ripe : about1.ripe theMethod args0 below0 = true := by decide +kernel
theorem w_running : about1.status = .running := rfl
set_option maxRecDepth 65536 in
theorem w_room : about1.hasRoom e0.platform room_1 = true :=
  launch0.hasRoom_least _ room_1 (by decide +kernel) (by decide +kernel) (by decide +kernel) (by decide +kernel) (by decide +kernel) (by decide +kernel)
theorem allAtoms_all (ts : List Jvm.Cond) (a : Array Jvm.Value) (st : Jvm.State) : (allAtoms ts).before a st = ts.all (fun c => c.before a st) := by
  induction ts with
  | nil => rfl
  | cons c t ih =>
    show (Jvm.Cond.and c (allAtoms t)).before a st = _
    rw [Jvm.Cond.before_and, ih, List.all_cons]
def words1 : List Jvm.Cond := Jvm.Cond.code x code maxLocals ret :: tables_1
/-- a 'code' word, met by the world's own term for the bytes: nothing is compared byte by byte -/
theorem code_word {y : MethodName} {bytes : ByteArray} {mx : Nat} {rt : Option FieldType} {a : Array Value} {s : State} {m : MethodId} {meth : Method} {c : Code} (h1 : s.methodNamed? y = some m) (h2 : s.vm.method? m = some meth) (h3 : meth.code = some c) (h4 : c.code = bytes)
    (h5 : (c.maxLocals == mx && c.exceptionTable.isEmpty && decide (c.maxStack ≤ mostOperands) && decide (meth.sig.returnType = rt) && !meth.locks && decide (parseMethodDescriptor y.desc = some meth.sig)) = true) : (Jvm.Cond.code y bytes mx rt).before a s = true := by
  simp only [Bool.and_eq_true, beq_iff_eq, Bool.not_eq_true', decide_eq_true_eq] at h5
  obtain ⟨⟨⟨⟨⟨g1, g2⟩, g3⟩, g4⟩, g5⟩, g6⟩ := h5
  simp [Cond.before, Cond.holds, Cond.value, h1, h2, h3, h4, g1, g2, g3, g4, g5, g6]
def isCode : Jvm.Cond → Bool
  | .code _ _ _ _ => true
  | _ => false
theorem all_split {L : List Jvm.Cond} {P : Jvm.Cond → Bool} (h1 : L.all (fun c => isCode c || P c) = true) (h2 : ∀ c ∈ L.filter isCode, P c = true) : L.all P = true := by
  refine List.all_eq_true.mpr fun c hc => ?_
  have h := List.all_eq_true.mp h1 c hc
  rcases Bool.eq_false_or_eq_true (isCode c) with hi | hi
  · exact h2 c (List.mem_filter.mpr ⟨hc, hi⟩)
  · simpa [hi] using h
set_option maxRecDepth 65536 in
theorem w_c0 : (Jvm.Cond.code x code maxLocals ret).before args0 about1 = true := code_word (m := ⟨1, 2⟩) (meth := k1m2) (c := k1c2) (by decide +kernel) rfl rfl rfl (by decide +kernel)
set_option maxRecDepth 65536 in
theorem w_c1 : (Jvm.Cond.code ({ cls := "java/lang/String", name := "<init>", desc := "([C)V" } : Jvm.MethodName) jdk_42_method_3_code (2 : Nat) (Option.none : Option Jvm.ClassFile.FieldType)).before args0 about1 = true := code_word (m := ⟨7, 1⟩) (meth := k7m1) (c := k7c1) (by decide +kernel) rfl rfl rfl (by decide +kernel)
set_option maxRecDepth 65536 in
theorem w_c2 : (Jvm.Cond.code ({ cls := "java/lang/String", name := "<init>", desc := "([CIILjava/lang/Void;)V" } : Jvm.MethodName) jdk_42_method_149_code (6 : Nat) (Option.none : Option Jvm.ClassFile.FieldType)).before args0 about1 = true := code_word (m := ⟨7, 4⟩) (meth := k7m4) (c := k7c4) (by decide +kernel) rfl rfl rfl (by decide +kernel)
set_option maxRecDepth 65536 in
theorem w_c3 : (Jvm.Cond.code ({ cls := "java/lang/Object", name := "<init>", desc := "()V" } : Jvm.MethodName) object_method_1_code (1 : Nat) (Option.none : Option Jvm.ClassFile.FieldType)).before args0 about1 = true := code_word (m := ⟨0, 0⟩) (meth := k0m0) (c := k0c0) (by decide +kernel) rfl rfl rfl (by decide +kernel)
set_option maxRecDepth 65536 in
theorem w_c4 : (Jvm.Cond.code ({ cls := "java/lang/StringUTF16", name := "compress", desc := "([CII)[B" } : Jvm.MethodName) jdk_52_method_16_code (6 : Nat) (Option.some (Jvm.ClassFile.FieldType.array Jvm.ClassFile.FieldType.byte))).before args0 about1 = true := code_word (m := ⟨8, 8⟩) (meth := k8m8) (c := k8c8) (by decide +kernel) rfl rfl rfl (by decide +kernel)
set_option maxRecDepth 65536 in
theorem w_c5 : (Jvm.Cond.code ({ cls := "java/lang/StringUTF16", name := "compress", desc := "([CI[BII)I" } : Jvm.MethodName) jdk_52_method_21_code (7 : Nat) (Option.some Jvm.ClassFile.FieldType.int)).before args0 about1 = true := code_word (m := ⟨8, 9⟩) (meth := k8m9) (c := k8c9) (by decide +kernel) rfl rfl rfl (by decide +kernel)
set_option maxRecDepth 65536 in
theorem w_c6 : (Jvm.Cond.code ({ cls := "java/lang/StringUTF16", name := "coderFromArrayLen", desc := "([BI)B" } : Jvm.MethodName) jdk_52_method_15_code (2 : Nat) (Option.some Jvm.ClassFile.FieldType.byte)).before args0 about1 = true := code_word (m := ⟨8, 7⟩) (meth := k8m7) (c := k8c7) (by decide +kernel) rfl rfl rfl (by decide +kernel)
set_option maxRecDepth 65536 in
theorem w_c7 : (Jvm.Cond.code ({ cls := "com/example/cartouche/cartouche/ControlCharactersIndexInPinLaw", name := "ctrl", desc := "(C)Z" } : Jvm.MethodName) method_2_code (1 : Nat) (Option.some Jvm.ClassFile.FieldType.boolean)).before args0 about1 = true := code_word (m := ⟨1, 1⟩) (meth := k1m1) (c := k1c1) (by decide +kernel) rfl rfl rfl (by decide +kernel)
set_option maxRecDepth 65536 in
theorem w_c8 : (Jvm.Cond.code ({ cls := "com/example/cartouche/cartouche/ControlCharacters", name := "indexIn", desc := "(Ljava/lang/String;)I" } : Jvm.MethodName) prog_1_method_4_code (2 : Nat) (Option.some Jvm.ClassFile.FieldType.int)).before args0 about1 = true := code_word (m := ⟨9, 1⟩) (meth := k9m1) (c := k9c1) (by decide +kernel) rfl rfl rfl (by decide +kernel)
set_option maxRecDepth 65536 in
theorem w_c9 : (Jvm.Cond.code ({ cls := "java/lang/String", name := "length", desc := "()I" } : Jvm.MethodName) jdk_42_method_54_code (1 : Nat) (Option.some Jvm.ClassFile.FieldType.int)).before args0 about1 = true := code_word (m := ⟨7, 2⟩) (meth := k7m2) (c := k7c2) (by decide +kernel) rfl rfl rfl (by decide +kernel)
set_option maxRecDepth 65536 in
theorem w_c10 : (Jvm.Cond.code ({ cls := "java/lang/String", name := "coder", desc := "()B" } : Jvm.MethodName) jdk_42_method_152_code (1 : Nat) (Option.some Jvm.ClassFile.FieldType.byte)).before args0 about1 = true := code_word (m := ⟨7, 5⟩) (meth := k7m5) (c := k7c5) (by decide +kernel) rfl rfl rfl (by decide +kernel)
set_option maxRecDepth 65536 in
theorem w_c11 : (Jvm.Cond.code ({ cls := "java/lang/String", name := "charAt", desc := "(I)C" } : Jvm.MethodName) jdk_42_method_56_code (2 : Nat) (Option.some Jvm.ClassFile.FieldType.char)).before args0 about1 = true := code_word (m := ⟨7, 3⟩) (meth := k7m3) (c := k7c3) (by decide +kernel) rfl rfl rfl (by decide +kernel)
set_option maxRecDepth 65536 in
theorem w_c12 : (Jvm.Cond.code ({ cls := "java/lang/String", name := "isLatin1", desc := "()Z" } : Jvm.MethodName) jdk_42_method_154_code (1 : Nat) (Option.some Jvm.ClassFile.FieldType.boolean)).before args0 about1 = true := code_word (m := ⟨7, 6⟩) (meth := k7m6) (c := k7c6) (by decide +kernel) rfl rfl rfl (by decide +kernel)
set_option maxRecDepth 65536 in
theorem w_c13 : (Jvm.Cond.code ({ cls := "java/lang/StringLatin1", name := "charAt", desc := "([BI)C" } : Jvm.MethodName) jdk_43_method_2_code (2 : Nat) (Option.some Jvm.ClassFile.FieldType.char)).before args0 about1 = true := code_word (m := ⟨10, 1⟩) (meth := k10m1) (c := k10c1) (by decide +kernel) rfl rfl rfl (by decide +kernel)
set_option maxRecDepth 65536 in
theorem w_c14 : (Jvm.Cond.code ({ cls := "java/lang/String", name := "checkIndex", desc := "(II)V" } : Jvm.MethodName) jdk_42_method_155_code (2 : Nat) (Option.none : Option Jvm.ClassFile.FieldType)).before args0 about1 = true := code_word (m := ⟨7, 7⟩) (meth := k7m7) (c := k7c7) (by decide +kernel) rfl rfl rfl (by decide +kernel)
set_option maxRecDepth 65536 in
theorem w_c15 : (Jvm.Cond.code ({ cls := "jdk/internal/util/Preconditions", name := "checkIndex", desc := "(IILjava/util/function/BiFunction;)I" } : Jvm.MethodName) jdk_41_method_11_code (3 : Nat) (Option.some Jvm.ClassFile.FieldType.int)).before args0 about1 = true := code_word (m := ⟨11, 1⟩) (meth := k11m1) (c := k11c1) (by decide +kernel) rfl rfl rfl (by decide +kernel)
set_option maxRecDepth 65536 in
theorem w_c16 : (Jvm.Cond.code ({ cls := "com/example/cartouche/cartouche/ControlCharacters", name := "isControl", desc := "(C)Z" } : Jvm.MethodName) prog_1_method_5_code (1 : Nat) (Option.some Jvm.ClassFile.FieldType.boolean)).before args0 about1 = true := code_word (m := ⟨9, 2⟩) (meth := k9m2) (c := k9c2) (by decide +kernel) rfl rfl rfl (by decide +kernel)
set_option maxRecDepth 65536 in
theorem w_c17 : (Jvm.Cond.code ({ cls := "java/lang/StringUTF16", name := "toBytes", desc := "([CII)[B" } : Jvm.MethodName) jdk_52_method_14_code (5 : Nat) (Option.some (Jvm.ClassFile.FieldType.array Jvm.ClassFile.FieldType.byte))).before args0 about1 = true := code_word (m := ⟨8, 6⟩) (meth := k8m6) (c := k8c6) (by decide +kernel) rfl rfl rfl (by decide +kernel)
set_option maxRecDepth 65536 in
theorem w_c18 : (Jvm.Cond.code ({ cls := "java/lang/StringUTF16", name := "newBytesFor", desc := "(I)[B" } : Jvm.MethodName) jdk_52_method_2_code (1 : Nat) (Option.some (Jvm.ClassFile.FieldType.array Jvm.ClassFile.FieldType.byte))).before args0 about1 = true := code_word (m := ⟨8, 1⟩) (meth := k8m1) (c := k8c1) (by decide +kernel) rfl rfl rfl (by decide +kernel)
set_option maxRecDepth 65536 in
theorem w_c19 : (Jvm.Cond.code ({ cls := "java/lang/StringUTF16", name := "newBytesLength", desc := "(I)I" } : Jvm.MethodName) jdk_52_method_3_code (1 : Nat) (Option.some Jvm.ClassFile.FieldType.int)).before args0 about1 = true := code_word (m := ⟨8, 2⟩) (meth := k8m2) (c := k8c2) (by decide +kernel) rfl rfl rfl (by decide +kernel)
set_option maxRecDepth 65536 in
theorem w_c20 : (Jvm.Cond.code ({ cls := "java/lang/StringUTF16", name := "putChar", desc := "([BII)V" } : Jvm.MethodName) jdk_52_method_4_code (3 : Nat) (Option.none : Option Jvm.ClassFile.FieldType)).before args0 about1 = true := code_word (m := ⟨8, 3⟩) (meth := k8m3) (c := k8c3) (by decide +kernel) rfl rfl rfl (by decide +kernel)
set_option maxRecDepth 65536 in
theorem w_c21 : (Jvm.Cond.code ({ cls := "java/lang/StringUTF16", name := "getChar", desc := "([BI)C" } : Jvm.MethodName) jdk_52_method_5_code (2 : Nat) (Option.some Jvm.ClassFile.FieldType.char)).before args0 about1 = true := code_word (m := ⟨8, 4⟩) (meth := k8m4) (c := k8c4) (by decide +kernel) rfl rfl rfl (by decide +kernel)
set_option maxRecDepth 65536 in
theorem w_c22 : (Jvm.Cond.code ({ cls := "java/lang/StringUTF16", name := "charAt", desc := "([BI)C" } : Jvm.MethodName) jdk_52_method_83_code (2 : Nat) (Option.some Jvm.ClassFile.FieldType.char)).before args0 about1 = true := code_word (m := ⟨8, 10⟩) (meth := k8m10) (c := k8c10) (by decide +kernel) rfl rfl rfl (by decide +kernel)
set_option maxRecDepth 65536 in
theorem w_c23 : (Jvm.Cond.code ({ cls := "java/lang/StringUTF16", name := "checkIndex", desc := "(I[B)V" } : Jvm.MethodName) jdk_52_method_91_code (2 : Nat) (Option.none : Option Jvm.ClassFile.FieldType)).before args0 about1 = true := code_word (m := ⟨8, 11⟩) (meth := k8m11) (c := k8c11) (by decide +kernel) rfl rfl rfl (by decide +kernel)
set_option maxRecDepth 65536 in
theorem w_c24 : (Jvm.Cond.code ({ cls := "java/lang/StringUTF16", name := "length", desc := "([B)I" } : Jvm.MethodName) jdk_52_method_6_code (1 : Nat) (Option.some Jvm.ClassFile.FieldType.int)).before args0 about1 = true := code_word (m := ⟨8, 5⟩) (meth := k8m5) (c := k8c5) (by decide +kernel) rfl rfl rfl (by decide +kernel)
def codes1 : List Jvm.Cond := [Jvm.Cond.code x code maxLocals ret, Jvm.Cond.code ({ cls := "java/lang/String", name := "<init>", desc := "([C)V" } : Jvm.MethodName) jdk_42_method_3_code (2 : Nat) (Option.none : Option Jvm.ClassFile.FieldType), Jvm.Cond.code ({ cls := "java/lang/String", name := "<init>", desc := "([CIILjava/lang/Void;)V" } : Jvm.MethodName) jdk_42_method_149_code (6 : Nat) (Option.none : Option Jvm.ClassFile.FieldType), Jvm.Cond.code ({ cls := "java/lang/Object", name := "<init>", desc := "()V" } : Jvm.MethodName) object_method_1_code (1 : Nat) (Option.none : Option Jvm.ClassFile.FieldType), Jvm.Cond.code ({ cls := "java/lang/StringUTF16", name := "compress", desc := "([CII)[B" } : Jvm.MethodName) jdk_52_method_16_code (6 : Nat) (Option.some (Jvm.ClassFile.FieldType.array Jvm.ClassFile.FieldType.byte)), Jvm.Cond.code ({ cls := "java/lang/StringUTF16", name := "compress", desc := "([CI[BII)I" } : Jvm.MethodName) jdk_52_method_21_code (7 : Nat) (Option.some Jvm.ClassFile.FieldType.int), Jvm.Cond.code ({ cls := "java/lang/StringUTF16", name := "coderFromArrayLen", desc := "([BI)B" } : Jvm.MethodName) jdk_52_method_15_code (2 : Nat) (Option.some Jvm.ClassFile.FieldType.byte), Jvm.Cond.code ({ cls := "com/example/cartouche/cartouche/ControlCharactersIndexInPinLaw", name := "ctrl", desc := "(C)Z" } : Jvm.MethodName) method_2_code (1 : Nat) (Option.some Jvm.ClassFile.FieldType.boolean), Jvm.Cond.code ({ cls := "com/example/cartouche/cartouche/ControlCharacters", name := "indexIn", desc := "(Ljava/lang/String;)I" } : Jvm.MethodName) prog_1_method_4_code (2 : Nat) (Option.some Jvm.ClassFile.FieldType.int), Jvm.Cond.code ({ cls := "java/lang/String", name := "length", desc := "()I" } : Jvm.MethodName) jdk_42_method_54_code (1 : Nat) (Option.some Jvm.ClassFile.FieldType.int), Jvm.Cond.code ({ cls := "java/lang/String", name := "coder", desc := "()B" } : Jvm.MethodName) jdk_42_method_152_code (1 : Nat) (Option.some Jvm.ClassFile.FieldType.byte), Jvm.Cond.code ({ cls := "java/lang/String", name := "charAt", desc := "(I)C" } : Jvm.MethodName) jdk_42_method_56_code (2 : Nat) (Option.some Jvm.ClassFile.FieldType.char), Jvm.Cond.code ({ cls := "java/lang/String", name := "isLatin1", desc := "()Z" } : Jvm.MethodName) jdk_42_method_154_code (1 : Nat) (Option.some Jvm.ClassFile.FieldType.boolean), Jvm.Cond.code ({ cls := "java/lang/StringLatin1", name := "charAt", desc := "([BI)C" } : Jvm.MethodName) jdk_43_method_2_code (2 : Nat) (Option.some Jvm.ClassFile.FieldType.char), Jvm.Cond.code ({ cls := "java/lang/String", name := "checkIndex", desc := "(II)V" } : Jvm.MethodName) jdk_42_method_155_code (2 : Nat) (Option.none : Option Jvm.ClassFile.FieldType), Jvm.Cond.code ({ cls := "jdk/internal/util/Preconditions", name := "checkIndex", desc := "(IILjava/util/function/BiFunction;)I" } : Jvm.MethodName) jdk_41_method_11_code (3 : Nat) (Option.some Jvm.ClassFile.FieldType.int), Jvm.Cond.code ({ cls := "com/example/cartouche/cartouche/ControlCharacters", name := "isControl", desc := "(C)Z" } : Jvm.MethodName) prog_1_method_5_code (1 : Nat) (Option.some Jvm.ClassFile.FieldType.boolean), Jvm.Cond.code ({ cls := "java/lang/StringUTF16", name := "toBytes", desc := "([CII)[B" } : Jvm.MethodName) jdk_52_method_14_code (5 : Nat) (Option.some (Jvm.ClassFile.FieldType.array Jvm.ClassFile.FieldType.byte)), Jvm.Cond.code ({ cls := "java/lang/StringUTF16", name := "newBytesFor", desc := "(I)[B" } : Jvm.MethodName) jdk_52_method_2_code (1 : Nat) (Option.some (Jvm.ClassFile.FieldType.array Jvm.ClassFile.FieldType.byte)), Jvm.Cond.code ({ cls := "java/lang/StringUTF16", name := "newBytesLength", desc := "(I)I" } : Jvm.MethodName) jdk_52_method_3_code (1 : Nat) (Option.some Jvm.ClassFile.FieldType.int), Jvm.Cond.code ({ cls := "java/lang/StringUTF16", name := "putChar", desc := "([BII)V" } : Jvm.MethodName) jdk_52_method_4_code (3 : Nat) (Option.none : Option Jvm.ClassFile.FieldType), Jvm.Cond.code ({ cls := "java/lang/StringUTF16", name := "getChar", desc := "([BI)C" } : Jvm.MethodName) jdk_52_method_5_code (2 : Nat) (Option.some Jvm.ClassFile.FieldType.char), Jvm.Cond.code ({ cls := "java/lang/StringUTF16", name := "charAt", desc := "([BI)C" } : Jvm.MethodName) jdk_52_method_83_code (2 : Nat) (Option.some Jvm.ClassFile.FieldType.char), Jvm.Cond.code ({ cls := "java/lang/StringUTF16", name := "checkIndex", desc := "(I[B)V" } : Jvm.MethodName) jdk_52_method_91_code (2 : Nat) (Option.none : Option Jvm.ClassFile.FieldType), Jvm.Cond.code ({ cls := "java/lang/StringUTF16", name := "length", desc := "([B)I" } : Jvm.MethodName) jdk_52_method_6_code (1 : Nat) (Option.some Jvm.ClassFile.FieldType.int)]
set_option maxRecDepth 65536 in
theorem codes_eq : words1.filter isCode = codes1 := rfl
theorem w_codes : ∀ c ∈ words1.filter isCode, c.before args0 about1 = true := by
  rw [codes_eq]
  intro c hc
  simp only [codes1, List.mem_cons, List.not_mem_nil, or_false] at hc
  rcases hc with rfl | rfl | rfl | rfl | rfl | rfl | rfl | rfl | rfl | rfl | rfl | rfl | rfl | rfl | rfl | rfl | rfl | rfl | rfl | rfl | rfl | rfl | rfl | rfl | rfl
  · exact w_c0
  · exact w_c1
  · exact w_c2
  · exact w_c3
  · exact w_c4
  · exact w_c5
  · exact w_c6
  · exact w_c7
  · exact w_c8
  · exact w_c9
  · exact w_c10
  · exact w_c11
  · exact w_c12
  · exact w_c13
  · exact w_c14
  · exact w_c15
  · exact w_c16
  · exact w_c17
  · exact w_c18
  · exact w_c19
  · exact w_c20
  · exact w_c21
  · exact w_c22
  · exact w_c23
  · exact w_c24
set_option maxRecDepth 65536 in
theorem w_t1 : (words1.take 24).all (fun c => isCode c || c.before args0 about1) = true := by decide +kernel
set_option maxRecDepth 65536 in
theorem w_t2 : ((words1.drop 24).take 24).all (fun c => isCode c || c.before args0 about1) = true := by decide +kernel
set_option maxRecDepth 65536 in
theorem w_t3 : (((words1.drop 24).drop 24).take 24).all (fun c => isCode c || c.before args0 about1) = true := by decide +kernel
set_option maxRecDepth 65536 in
theorem w_t4 : ((((words1.drop 24).drop 24).drop 24).take 24).all (fun c => isCode c || c.before args0 about1) = true := by decide +kernel
set_option maxRecDepth 65536 in
theorem w_t5 : ((((words1.drop 24).drop 24).drop 24).drop 24).all (fun c => isCode c || c.before args0 about1) = true := by decide +kernel
theorem w_tables : (allAtoms (Jvm.Cond.code x code maxLocals ret :: tables_1)).before args0 about1 = true := by
  rw [allAtoms_all]
  show words1.all (fun c => c.before args0 about1) = true
  refine all_split ?_ w_codes
  rw [← List.take_append_drop 24 words1, List.all_append, w_t1, ← List.take_append_drop 24 (words1.drop 24), List.all_append, w_t2, ← List.take_append_drop 24 ((words1.drop 24).drop 24), List.all_append, w_t3, ← List.take_append_drop 24 (((words1.drop 24).drop 24).drop 24), List.all_append, w_t4, w_t5]
  rfl
set_option maxRecDepth 65536 in
theorem w_rest : rest_1_c.before args0 about1 = true := by decide +kernel
set_option maxRecDepth 65536 in
theorem w_case : (Jvm.Cond.and given_1 narrow_1).before args0 about1 = true := by decide +kernel
set_option maxRecDepth 65536 in
theorem w_consts : constsHeld consts_1 about1 := Jvm.Lit.constsHeldB_iff.mp (by decide +kernel)
theorem w_applies : (headSpec (Jvm.Cond.code x code maxLocals ret :: tables_1) room_1).applies x e0.platform about1 = true :=
  (Spec.applies_iff w_frames).mpr ⟨w_running, w_runnable, w_alone, w_named, w_hears, w_ripe, w_room, w_tables⟩
theorem atStart : AtStart classFile x code maxLocals ret World_1 tables_1 room_1 Calls_1 rest_1 Pre_1 launch0 p0 e0 about1 theMethod args0 below0 :=
  ⟨lists_1, trivial, launch0.admits_env _ _ _, launch0.least_env, fairChoices_fair.cas, fairChoices_fair.clock, w_frames, w_args, w_heap, w_applies, ⟨w_consts, trivial⟩, w_rest, w_case⟩
end start1
theorem witness_1 : WitnessClaimed_1 := ⟨start1.p0, start1.e0, start1.about1, start1.theMethod, start1.args0, start1.below0, start1.atStart⟩
end Jvm.Pilot.@@N@@
