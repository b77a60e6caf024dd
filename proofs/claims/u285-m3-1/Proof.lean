import JvmDerived
import JvmDerived.Pilot.@@N@@Statement
import JvmDerived.Pilot.@@N@@Code
set_option linter.unusedVariables false
set_option linter.unusedSimpArgs false
namespace Jvm.RoadKit
open Sem ClassFile Op Lib Jvm.Stand Jvm.Free Jvm.LawKit
section Own
variable {p : Program} {l : Launch} {e : Env} {R : Room} {s : State} {m : MethodId} {args : Array Value} {below : List Frame} {meth : Method} {c : Code} {T : State} {locs : List Loc} {cells slots : Nat} {Z : State} {a0 : Array Value} {h : Heap}
/-- what is left of a body: from the frame g on it ends, and Q holds of what it returns, the heap and the places written -/
def Goes (p : Program) (e : Env) (below : List Frame) (s : State) (K N : Nat) (Q : Option Value → Heap → List Loc → Prop) (T : State) (g : JFrame) : Prop :=
  ∃ s₂ o, Steps p.tables e below (T.setTop g) s₂ ∧ s₂.status = .running ∧ Ended s₂ below o ∧ ∃ v L, o = .returned v ∧ Q v s₂.heap L ∧ FrameEnd s o s₂ L K N
theorem Goes.step {K N : Nat} {Q : Option Value → Heap → List Loc → Prop} {T' : State} {g g' : JFrame} (k : ∀ t, Steps p.tables e below (T'.setTop g') t → Steps p.tables e below (T.setTop g) t) (h : Goes p e below s K N Q T' g') : Goes p e below s K N Q T g := by
  obtain ⟨s₂, o, h1, h2⟩ := h
  exact ⟨s₂, o, k _ h1, h2⟩
theorem Goes.jump {K N : Nat} {Q : Option Value → Heap → List Loc → Prop} {T' : State} {g g' : JFrame} (k : Steps p.tables e below (T.setTop g) (T'.setTop g')) (h : Goes p e below s K N Q T' g') : Goes p e below s K N Q T g :=
  Goes.step (fun _ q => k.trans q) h
theorem Goes.ite {K N : Nat} {α : Type} {Q : α → Option Value → Heap → List Loc → Prop} {g : JFrame} {a b : α} {d : Prop} [Decidable d] (h1 : d → Goes p e below s K N (Q a) T g) (h2 : ¬ d → Goes p e below s K N (Q b) T g) : Goes p e below s K N (Q (if d then a else b)) T g := by
  split
  · next q => exact h1 q
  · next q => exact h2 q
theorem Goes.imp {K N : Nat} {Q Q' : Option Value → Heap → List Loc → Prop} {g : JFrame} (q : ∀ v h L, Q v h L → Q' v h L) (h : Goes p e below s K N Q T g) : Goes p e below s K N Q' T g := by
  obtain ⟨s₂, o, h1, h2, h3, v, L, h4, h5, h6⟩ := h
  exact ⟨s₂, o, h1, h2, h3, v, L, h4, q _ _ _ h5, h6⟩
theorem retI (X : Stand p l e R s m args below meth c T locs cells slots) (hx : p.tables.exec = Jvm.exec) {pc : Nat} {Ls : Array Slot} {z : Int32} {rest : List Value} (hret : meth.sig.returnType = some .int) (hd : decode c.code pc = .ok (.ireturn, 1)) {fs : List Frame}
    (hl : ∀ (f : JFrame) (acts : List Action), f.method = m → f.locked = none → f.entered = [] → (doReturn e (T.setTop f) acts (some (.int z))).1 = T.setFrames fs) : Steps p.tables e below (T.setTop (mkF m pc Ls (.int z :: rest))) (T.setFrames fs) := by
  have hm' : T.vm.method? m = some meth := X.method'
  have hn : narrow .int (.int z) = .int z := rfl
  show Steps p.tables e below (T.setTop { method := m, pc := pc, locals := Ls, stack := _ :: rest, locked := none }) _
  jvm_step X.here [X.here.top, hx, hd, hm', hret, hn]
  first | (intro acts; rw [hl _ acts rfl rfl rfl]) | rw [hl _ _ rfl rfl rfl]
  exact Steps.refl _
theorem retJ (X : Stand p l e R s m args below meth c T locs cells slots) (hx : p.tables.exec = Jvm.exec) {pc : Nat} {Ls : Array Slot} {z : Int64} {rest : List Value} (hret : meth.sig.returnType = some .long) (hd : decode c.code pc = .ok (.lreturn, 1)) {fs : List Frame}
    (hl : ∀ (f : JFrame) (acts : List Action), f.method = m → f.locked = none → f.entered = [] → (doReturn e (T.setTop f) acts (some (.long z))).1 = T.setFrames fs) : Steps p.tables e below (T.setTop (mkF m pc Ls (.long z :: rest))) (T.setFrames fs) :=
  retOut X hx hret rfl (Or.inr (Or.inl ⟨rfl, rfl, z, rfl⟩)) hd hl
theorem Goes.outI (X : Stand p l e R s m args below meth c T locs cells slots) (hx : p.tables.exec = Jvm.exec) (hlk : meth.locks = false) (hret : meth.sig.returnType = some .int) {pc : Nat} (hd : decode c.code pc = .ok (.ireturn, 1)) {Ls : Array Slot} {z : Int32} {rest : List Value} {K N : Nat} {Q : Option Value → Heap → List Loc → Prop}
    (hq : Q (some (.int z)) T.heap locs) (hk : cells ≤ K) (hn : slots ≤ N) : Goes p e below s K N Q T (mkF m pc Ls (.int z :: rest)) := by
  obtain ⟨fs, hr, hrun, hended, hW, hsame⟩ := X.leave (v := some (.int z)) (fun h => by rw [hret] at h; cases h) hlk
  exact ⟨_, _, retI X hx hret hd hr, hrun, hended, _, _, rfl, hq, ⟨_, rfl⟩, hW, hsame.mono hk hn⟩
theorem Goes.outJ (X : Stand p l e R s m args below meth c T locs cells slots) (hx : p.tables.exec = Jvm.exec) (hlk : meth.locks = false) (hret : meth.sig.returnType = some .long) {pc : Nat} (hd : decode c.code pc = .ok (.lreturn, 1)) {Ls : Array Slot} {z : Int64} {rest : List Value} {K N : Nat} {Q : Option Value → Heap → List Loc → Prop}
    (hq : Q (some (.long z)) T.heap locs) (hk : cells ≤ K) (hn : slots ≤ N) : Goes p e below s K N Q T (mkF m pc Ls (.long z :: rest)) := by
  obtain ⟨fs, hr, hrun, hended, hW, hsame⟩ := X.leave (v := some (.long z)) (fun h => by rw [hret] at h; cases h) hlk
  exact ⟨_, _, retJ X hx hret hd hr, hrun, hended, _, _, rfl, hq, ⟨_, rfl⟩, hW, hsame.mono hk hn⟩
theorem Goes.outN (X : Stand p l e R s m args below meth c T locs cells slots) (hx : p.tables.exec = Jvm.exec) (hlk : meth.locks = false) {t : FieldType} (hret : meth.sig.returnType = some t) (ht : t = .boolean ∨ t = .byte ∨ t = .char ∨ t = .short) {pc : Nat} (hd : decode c.code pc = .ok (.ireturn, 1)) {Ls : Array Slot} {z : Int32} {rest : List Value} {K N : Nat} {Q : Option Value → Heap → List Loc → Prop}
    (hq : Q (some (.int (nar t z))) T.heap locs) (hk : cells ≤ K) (hn : slots ≤ N) : Goes p e below s K N Q T (mkF m pc Ls (.int z :: rest)) := by
  obtain ⟨fs, hr, hrun, hended, hW, hsame⟩ := X.leave (v := some (.int (nar t z))) (fun h => by rw [hret] at h; cases h) hlk
  exact ⟨_, _, retN X hx hret ht hd hr, hrun, hended, _, _, rfl, hq, ⟨_, rfl⟩, hW, hsame.mono hk hn⟩
theorem Goes.outV (X : Stand p l e R s m args below meth c T locs cells slots) (hx : p.tables.exec = Jvm.exec) (hlk : meth.locks = false) (hret : meth.sig.returnType = none) {pc : Nat} (hd : decode c.code pc = .ok (.return_, 1)) {Ls : Array Slot} {K N : Nat} {Q : Option Value → Heap → List Loc → Prop}
    (hq : Q none T.heap locs) (hk : cells ≤ K) (hn : slots ≤ N) : Goes p e below s K N Q T (mkF m pc Ls []) := by
  obtain ⟨fs, hr, hrun, hended, hW, hsame⟩ := X.leave (v := none) (fun _ => rfl) hlk
  exact ⟨_, _, X.returnOut hx hret hd hr, hrun, hended, _, _, rfl, hq, ⟨_, rfl⟩, hW, hsame.mono hk hn⟩
theorem Goes.outR (X : Stand p l e R s m args below meth c T locs cells slots) (hx : p.tables.exec = Jvm.exec) (hlk : meth.locks = false) {t : FieldType} (hret : meth.sig.returnType = some t) (ht : t.isReference = true) {w : Value} (hw : w.isRef = true) {pc : Nat} (hd : decode c.code pc = .ok (.areturn, 1)) {Ls : Array Slot} {K N : Nat} {Q : Option Value → Heap → List Loc → Prop}
    (hq : Q (some w) T.heap locs) (hk : cells ≤ K) (hn : slots ≤ N) : Goes p e below s K N Q T (mkF m pc Ls [w]) := by
  obtain ⟨fs, hr, hrun, hended, hW, hsame⟩ := X.leave (v := some w) (fun h => by rw [hret] at h; cases h) hlk
  exact ⟨_, _, X.areturnOut hx hw hret ht hd hr, hrun, hended, _, _, rfl, hq, ⟨_, rfl⟩, hW, hsame.mono hk hn⟩
/-- a body that returns v and leaves the heap as it was -/
def PV (h0 : Heap) (r : Value) (v : Option Value) (h : Heap) (L : List Loc) : Prop := v = some r ∧ L = [] ∧ h = h0
def PI (h0 : Heap) (r : Int32) (v : Option Value) (h : Heap) (L : List Loc) : Prop := PV h0 (.int r) v h L
def PJ (h0 : Heap) (r : Int64) (v : Option Value) (h : Heap) (L : List Loc) : Prop := PV h0 (.long r) v h L
def PA (h0 : Heap) (r : Addr) (v : Option Value) (h : Heap) (L : List Loc) : Prop := PV h0 (.ref r) v h L
/-- a reference that may be null -/
def ov : Option Addr → Value
  | none => .null
  | some b => .ref b
def PO (h0 : Heap) (r : Option Addr) (v : Option Value) (h : Heap) (L : List Loc) : Prop := PV h0 (ov r) v h L
theorem ov_cat (o : Option Addr) : (ov o).category = 1 := by cases o <;> rfl
theorem ov_inj {a b : Option Addr} : (ov a = ov b) = (a = b) := by cases a <;> cases b <;> simp [ov]
theorem ov_ref (o : Option Addr) : (ov o).isRef = true := by cases o <;> rfl
/-- a virtual call of a body that leaves the heap as it was -/
theorem callPureV (X : Stand p l e R s m args below meth c T locs cells slots) (hx : p.tables.exec = Jvm.exec) (hZ : Z.Warmed39 s.vm) {own C : String} {index : Nat} {y z : MethodName} {bytes : ByteArray} {maxL : Nat} {ret : Option FieldType} (hown : s.vm.findClass own = some m.cls)
    (w1 : (Cond.methodLink own index y).before a0 Z = true) (w2 : (Cond.declares y).before a0 Z = true) (w3 : (Cond.selects C y z).before a0 Z = true) (w4 : (Cond.instanceMethod z).before a0 Z = true) (w5 : (Cond.code z bytes maxL ret).before a0 Z = true) (w6 : (Cond.initialized z.cls).before a0 Z = true) (hnf : NotFace s y) (hy : y.cls ≠ "java/lang/invoke/MethodHandle" ∧ y.cls ≠ "java/lang/invoke/VarHandle")
    {F W0 W : Nat} {b : Addr} {argsL rest : List Value} {r : Value} {Q : Option Value → Heap → List Loc → Prop} (hQ : ∀ v h' L, Q v h' L → PV h r v h' L)
    (hM : MetFree l z (head1 [Cond.code z bytes maxL ret] ({ frames := F, cells := 0, slots := 0, locals := W0 } : Room)) (fun a U => a = (.ref b :: argsL).toArray ∧ Z.Warmed39 U.vm ∧ U.heap = h) (fun _ _ _ _ _ => True) (fun _ U o U' => ∃ v L, o = .returned v ∧ Q v U'.heap L ∧ FrameEnd U o U' L ({ frames := F, cells := 0, slots := 0, locals := W0 } : Room).cells ({ frames := F, cells := 0, slots := 0, locals := W0 } : Room).slots))
    (hf : F + 1 ≤ R.frames) (hl : W + (maxL + 11) + W0 ≤ R.locals) (hc : cells ≤ R.cells) (hs : slots ≤ R.slots) (eT : T.heap = h) (E : Exa Z h b C) {g : JFrame} (hg : g.method = m) (hsize : g.locals.size = c.maxLocals) (hlen : ∀ sig, parseMethodDescriptor y.desc = some sig → argsL.length = sig.parameters.length)
    (hstack : g.stack = argsL.reverse ++ .ref b :: rest) (hW : 2 * g.monitorRoom + (rest.map fun v => v.category).sum ≤ W) (hd : decode c.code g.pc = .ok (.invokevirtual index, 3)) :
    ∃ T', Stand p l e R s m args below meth c T' locs cells slots ∧ T'.heap = h ∧ ∀ target, Steps p.tables e below (T'.setTop { g with pc := g.pc + 3, stack := r :: rest }) target → Steps p.tables e below (T.setTop g) target := by
  obtain ⟨cq, kq, qa, qb, qc⟩ := isOf hZ eT E
  obtain ⟨_, _, ⟨T18, L18, k18, n18⟩, -, X18, ⟨Lc, hq, l18, y18, z18⟩, st⟩ := X.virtualBack hx hown (mvT hZ w1) (mvT hZ w2) hnf (mvT hZ w3) (mvT hZ w4) hy (backOf (W := W) hM hZ w5 w6 hf hl) qa qc hg hsize (Steps.refl _) hlen hstack hW hd (fun _ _ => ⟨rfl, eT, hc, hs⟩)
  dsimp only [Pt.U, Pt.locs, Pt.cells, Pt.slots] at X18 l18 y18 z18 st hq
  subst l18 y18 z18
  obtain ⟨rfl, rfl, e18⟩ := hQ _ _ _ hq
  rw [List.append_nil] at X18
  exact ⟨T18, X18, e18, fun _ k => st.trans k⟩
/-- a static call of a body that leaves the heap as it was -/
theorem callPure (X : Stand p l e R s m args below meth c T locs cells slots) (hx : p.tables.exec = Jvm.exec) (hZ : Z.Warmed39 s.vm) {own : String} {index : Nat} {y : MethodName} {bytes : ByteArray} {maxL : Nat} {ret : Option FieldType} (hown : s.vm.findClass own = some m.cls)
    (w1 : (Cond.methodLink own index y).before a0 Z = true) (w2 : (Cond.static y).before a0 Z = true) (w3 : (Cond.initialized y.cls).before a0 Z = true) (w4 : (Cond.code y bytes maxL ret).before a0 Z = true) (hy : y.cls ≠ "java/lang/invoke/MethodHandle" ∧ y.cls ≠ "java/lang/invoke/VarHandle")
    {F W0 W : Nat} {argsL rest : List Value} {r : Value} {Q : Option Value → Heap → List Loc → Prop} (hQ : ∀ v h' L, Q v h' L → PV h r v h' L)
    (hM : MetFree l y (head1 [Cond.code y bytes maxL ret] ({ frames := F, cells := 0, slots := 0, locals := W0 } : Room)) (fun a U => a = argsL.toArray ∧ Z.Warmed39 U.vm ∧ U.heap = h) (fun _ _ _ _ _ => True) (fun _ U o U' => ∃ v L, o = .returned v ∧ Q v U'.heap L ∧ FrameEnd U o U' L ({ frames := F, cells := 0, slots := 0, locals := W0 } : Room).cells ({ frames := F, cells := 0, slots := 0, locals := W0 } : Room).slots))
    (hf : F + 1 ≤ R.frames) (hl : W + (maxL + 11) + W0 ≤ R.locals) (hc : cells ≤ R.cells) (hs : slots ≤ R.slots) (eT : T.heap = h) {g : JFrame} (hg : g.method = m) (hsize : g.locals.size = c.maxLocals) (hlen : ∀ sig, parseMethodDescriptor y.desc = some sig → argsL.length = sig.parameters.length)
    (hstack : g.stack = argsL.reverse ++ rest) (hW : 2 * g.monitorRoom + (rest.map fun v => v.category).sum ≤ W) (hd : decode c.code g.pc = .ok (.invokestatic index, 3)) :
    ∃ T', Stand p l e R s m args below meth c T' locs cells slots ∧ T'.heap = h ∧ ∀ target, Steps p.tables e below (T'.setTop { g with pc := g.pc + 3, stack := r :: rest }) target → Steps p.tables e below (T.setTop g) target := by
  obtain ⟨_, _, ⟨T18, L18, k18, n18⟩, -, X18, ⟨Lc, hq, l18, y18, z18⟩, st⟩ := Jvm.LawKit.callS X hx hown (mvT hZ w1) (mvT hZ w2) (mvT hZ w3) (mvT hZ w4) hy (backOf (W := W) hM hZ w4 w3 hf hl) hg hsize hlen hstack hW hd (fun _ _ => ⟨rfl, eT, hc, hs⟩)
  dsimp only [Pt.U, Pt.locs, Pt.cells, Pt.slots] at X18 l18 y18 z18 st hq
  subst l18 y18 z18
  obtain ⟨rfl, rfl, e18⟩ := hQ _ _ _ hq
  rw [List.append_nil] at X18
  exact ⟨T18, X18, e18, st⟩
end Own
end Jvm.RoadKit
namespace Jvm.RoadKit
open Sem ClassFile Op Lib Jvm.Stand Jvm.Free Jvm.LawKit
section OwnHeap
variable {p : Program} {l : Launch} {e : Env} {R : Room} {s : State} {m : MethodId} {args : Array Value} {below : List Frame} {meth : Method} {c : Code} {T : State} {locs : List Loc} {cells slots : Nat} {Z : State} {a0 : Array Value} {h h' : Heap} {a b : Addr} {ty : FieldType} {n : Nat} {f : Nat → Int32}
/-- a law's end: what it returns; nothing old was written -/
def PG (n0 : Nat) (r : Int32) (v : Option Value) (h : Heap) (L : List Loc) : Prop := v = some (.int r) ∧ Fr n0 L
/-- an array of n ints (bytes, chars ..): place j holds f j -/
def Ari (Z : State) (h : Heap) (a : Addr) (ty : FieldType) (n : Nat) (f : Nat → Int32) : Prop := ∃ c : Cell, Arr Z h a c ty ∧ c.slots.size = n ∧ n < 2 ^ 31 ∧ ∀ j, j < n → c.slots[j]? = some (.int (f j)) ∧ fits ty (.int (f j)) = true
theorem Ari.lt (F : Ari Z h a ty n f) : a < h.size := by obtain ⟨c, A, -⟩ := F; exact A.lt
theorem Ari.ext (F : Ari Z h a ty n f) (E : Ext h h') : Ari Z h' a ty n f := by obtain ⟨c, A, r⟩ := F; exact ⟨c, A.ext E, r⟩
theorem Ari.other {v : Value} {sl : Nat} (F : Ari Z h b ty n f) (W : Wr h h' a sl v) (q : b ≠ a) : Ari Z h' b ty n f := by obtain ⟨c, A, r⟩ := F; exact ⟨c, A.other W q, r⟩
theorem Ari.keep {ws : List Addr} (F : Ari Z h a ty n f) (K : Keep h h' ws) (q : a ∉ ws) : Ari Z h' a ty n f := by obtain ⟨c, A, r⟩ := F; exact ⟨c, ⟨K.2.1 a c A.1 q, A.2⟩, r⟩
theorem Ari.cast {g : Nat → Int32} (F : Ari Z h a ty n f) (q : ∀ j, j < n → f j = g j) : Ari Z h a ty n g := by
  obtain ⟨c, A, h1, h2, h3⟩ := F
  exact ⟨c, A, h1, h2, fun j hj => by rw [← q j hj]; exact h3 j hj⟩
def updI (f : Nat → Int32) (i : Nat) (x : Int32) : Nat → Int32 := fun j => if j = i then x else f j
theorem Ari.store {i : Nat} {x : Int32} (F : Ari Z h a ty n f) (W : Wr h h' a i (.int x)) (hi : i < n) (hx : fits ty (.int x) = true) : Ari Z h' a ty n (updI f i x) := by
  obtain ⟨c, A, h1, h2, h3⟩ := F
  refine ⟨c.setSlot i (.int x), A.same W, by rw [sz_set]; exact h1, h2, fun j hj => ?_⟩
  by_cases e : j = i
  · subst e
    simp only [updI, if_true]
    exact ⟨by simp [Cell.setSlot, h1, hj], hx⟩
  · simp only [updI, e, if_false]
    exact ⟨by rw [← (h3 j hj).1]; simp [Cell.setSlot, Array.getElem?_setIfInBounds, Ne.symm e], (h3 j hj).2⟩
theorem own_fitsI (x : Int32) : fits .int (.int x) = true := rfl
/-- newarray of N places -/
theorem newI (X : Stand p l e R s m args below meth c T locs cells slots) (hx : p.tables.exec = Jvm.exec) (hZ : Z.Warmed39 s.vm) {aty : ArrayType} (w : (Cond.arrayClass (newarray.typeOf aty)).before a0 Z = true) (eT : T.heap = h) {g : JFrame} (hg : g.method = m) (hd : decode c.code g.pc = .ok (.newarray aty, 2)) {z : Int32} {rest : List Value} (hs : g.stack = .int z :: rest)
    {N : Nat} (hz : z = Int32.ofNat N) {cap : Nat} (hcap : N ≤ cap) (hb : cap * 8 ≤ 536870912) (hc : cells + 1 ≤ R.cells) (hl : slots + cap ≤ R.slots) (hdv : defaultValue (newarray.typeOf aty) = .int 0) (hft : fits (newarray.typeOf aty) (.int 0) = true) :
    ∃ T' h', Stand p l e R s m args below meth c T' locs (cells + 1) (slots + cap) ∧ T'.heap = h' ∧ Ext h h' ∧ Ari Z h' h.size (newarray.typeOf aty) N (fun _ => 0) ∧ ∀ target, Steps p.tables e below (T'.setTop { g with pc := g.pc + 2, stack := .ref h.size :: rest }) target → Steps p.tables e below (T.setTop g) target := by
  have hN : N < 2 ^ 31 := by omega
  have ez : z.toInt = N := by rw [hz]; exact Int32.toInt_ofNat_of_lt hN
  have h0 : ¬ z < 0 := by rw [Int32.lt_iff_toInt_lt, ez]; have : (0 : Int32).toInt = 0 := rfl; omega
  have hn : z.toNatClampNeg = N := by have := nat_of h0; omega
  obtain ⟨T', h', cA, X', e', E, A, st⟩ := newP X hx hZ w eT hg hd hs h0 (cap := cap) (by omega) hb hc hl
  refine ⟨T', h', X', e', E, ⟨_, A, by rw [sz_new, hn], hN, fun j hj => ⟨?_, hft⟩⟩, st⟩
  simp [newA, hn, hj, hdv]
/-- iastore, bastore, castore at place i -/
theorem own_in {j : Int32} {i n : Nat} (hj : j = Int32.ofNat i) (hi : i < n) (hn : n < 2 ^ 31) : ¬ (j < 0 ∨ n ≤ j.toNatClampNeg) ∧ j.toNatClampNeg = i := by
  have ez : j.toInt = i := by rw [hj]; exact Int32.toInt_ofNat_of_lt (by omega)
  have h0 : ¬ j < 0 := by rw [Int32.lt_iff_toInt_lt, ez]; have : (0 : Int32).toInt = 0 := rfl; omega
  have hk : j.toNatClampNeg = i := by have := nat_of h0; omega
  exact ⟨by rintro (q | q); exact h0 q; omega, hk⟩
theorem stoI (X : Stand p l e R s m args below meth c T locs cells slots) (hx : p.tables.exec = Jvm.exec) (hZ : Z.Warmed39 s.vm) (eT : T.heap = h) (A : Ari Z h a .int n f) {j x : Int32} (i : Nat) (hj : j = Int32.ofNat i) (hi : i < n) {g : JFrame} (hg : g.method = m) {rest : List Value} (hs : g.stack = .int x :: .int j :: .ref a :: rest) (hd : decode c.code g.pc = .ok (.iastore, 1)) :
    ∃ T' h', Stand p l e R s m args below meth c T' (locs ++ [⟨a, i⟩]) cells slots ∧ T'.heap = h' ∧ Wr h h' a i (.int x) ∧ Ari Z h' a .int n (updI f i x) ∧ ∀ target, Steps p.tables e below (T'.setTop { g with pc := g.pc + 1, stack := rest }) target → Steps p.tables e below (T.setTop g) target := by
  have A' := A
  obtain ⟨cl, A1, h1, h2, h3⟩ := A
  obtain ⟨q1, q2⟩ := own_in hj hi h2
  obtain ⟨T', h', X', e', W, st⟩ := stI X hx hZ eT A1 (j := j) (by rw [h1]; exact q1) hg hs hd
  rw [q2] at X' W
  exact ⟨T', h', X', e', W, A'.store W hi rfl, st⟩
theorem stoB (X : Stand p l e R s m args below meth c T locs cells slots) (hx : p.tables.exec = Jvm.exec) (hZ : Z.Warmed39 s.vm) (eT : T.heap = h) (A : Ari Z h a .byte n f) {j x : Int32} (i : Nat) (hj : j = Int32.ofNat i) (hi : i < n) {g : JFrame} (hg : g.method = m) {rest : List Value} (hs : g.stack = .int x :: .int j :: .ref a :: rest) (hd : decode c.code g.pc = .ok (.bastore, 1)) :
    ∃ T' h', Stand p l e R s m args below meth c T' (locs ++ [⟨a, i⟩]) cells slots ∧ T'.heap = h' ∧ Wr h h' a i (.int x.toInt8.toInt32) ∧ Ari Z h' a .byte n (updI f i x.toInt8.toInt32) ∧ ∀ target, Steps p.tables e below (T'.setTop { g with pc := g.pc + 1, stack := rest }) target → Steps p.tables e below (T.setTop g) target := by
  have A' := A
  obtain ⟨cl, A1, h1, h2, h3⟩ := A
  obtain ⟨q1, q2⟩ := own_in hj hi h2
  obtain ⟨T', h', X', e', W, st⟩ := stB X hx hZ eT A1 (j := j) (by rw [h1]; exact q1) hg hs hd
  rw [q2] at X' W
  exact ⟨T', h', X', e', W, A'.store W hi (fits_nar_byte x), st⟩
theorem stoC (X : Stand p l e R s m args below meth c T locs cells slots) (hx : p.tables.exec = Jvm.exec) (hZ : Z.Warmed39 s.vm) (eT : T.heap = h) (A : Ari Z h a .char n f) {j x : Int32} (i : Nat) (hj : j = Int32.ofNat i) (hi : i < n) {g : JFrame} (hg : g.method = m) {rest : List Value} (hs : g.stack = .int x :: .int j :: .ref a :: rest) (hd : decode c.code g.pc = .ok (.castore, 1)) :
    ∃ T' h', Stand p l e R s m args below meth c T' (locs ++ [⟨a, i⟩]) cells slots ∧ T'.heap = h' ∧ Wr h h' a i (.int (nar .char x)) ∧ Ari Z h' a .char n (updI f i (nar .char x)) ∧ ∀ target, Steps p.tables e below (T'.setTop { g with pc := g.pc + 1, stack := rest }) target → Steps p.tables e below (T.setTop g) target := by
  have A' := A
  obtain ⟨cl, A1, h1, h2, h3⟩ := A
  obtain ⟨q1, q2⟩ := own_in hj hi h2
  obtain ⟨T', h', X', e', W, st⟩ := stC X hx hZ eT A1 (j := j) (by rw [h1]; exact q1) hg hs hd
  rw [q2] at X' W
  exact ⟨T', h', X', e', W, A'.store W hi (fits_nar_char x), st⟩
/-- iaload, baload at place i; arraylength -/
theorem rdI (X : Stand p l e R s m args below meth c T locs cells slots) (hx : p.tables.exec = Jvm.exec) (hZ : Z.Warmed39 s.vm) (eT : T.heap = h) (A : Ari Z h a .int n f) {j : Int32} (i : Nat) (hj : j = Int32.ofNat i) (hi : i < n) {g : JFrame} (hg : g.method = m) {rest : List Value} (hs : g.stack = .int j :: .ref a :: rest) (hd : decode c.code g.pc = .ok (.iaload, 1)) :
    ∀ target, Steps p.tables e below (T.setTop { g with pc := g.pc + 1, stack := .int (f i) :: rest }) target → Steps p.tables e below (T.setTop g) target := by
  obtain ⟨cl, A1, h1, h2, h3⟩ := A
  obtain ⟨q1, q2⟩ := own_in hj hi h2
  intro target k
  exact X.iaload hx (by rw [eT]; exact A1.1) (State.isArrayOf_alike hZ.alike A1.2.1) A1.2.2 (by rw [h1]; exact q1) (by rw [q2]; exact (h3 i hi).1) hg hs hd _ k
theorem rdB (X : Stand p l e R s m args below meth c T locs cells slots) (hx : p.tables.exec = Jvm.exec) (hZ : Z.Warmed39 s.vm) (eT : T.heap = h) (A : Ari Z h a .byte n f) {j : Int32} (i : Nat) (hj : j = Int32.ofNat i) (hi : i < n) {g : JFrame} (hg : g.method = m) {rest : List Value} (hs : g.stack = .int j :: .ref a :: rest) (hd : decode c.code g.pc = .ok (.baload, 1)) :
    ∀ target, Steps p.tables e below (T.setTop { g with pc := g.pc + 1, stack := .int (f i) :: rest }) target → Steps p.tables e below (T.setTop g) target := by
  obtain ⟨cl, A1, h1, h2, h3⟩ := A
  obtain ⟨q1, q2⟩ := own_in hj hi h2
  intro target k
  exact X.baloadBytes hx (by rw [eT]; exact A1.1) (State.isArrayOf_alike hZ.alike A1.2.1) A1.2.2 (by rw [h1]; exact q1) (by rw [q2]; exact (h3 i hi).1) hg hs hd _ k
theorem rdL (X : Stand p l e R s m args below meth c T locs cells slots) (hx : p.tables.exec = Jvm.exec) (hZ : Z.Warmed39 s.vm) (eT : T.heap = h) (A : Ari Z h a ty n f) {g : JFrame} (hg : g.method = m) {rest : List Value} (hs : g.stack = .ref a :: rest) (hd : decode c.code g.pc = .ok (.arraylength, 1)) :
    ∀ target, Steps p.tables e below (T.setTop { g with pc := g.pc + 1, stack := .int (Int32.ofNat n) :: rest }) target → Steps p.tables e below (T.setTop g) target := by
  obtain ⟨cl, A1, h1, h2, h3⟩ := A
  intro target k
  refine X.arraylength hx (by rw [eT]; exact A1.1) (State.isArrayOf_alike hZ.alike A1.2.1) hg hs hd _ ?_
  rw [h1]
  exact k
/-- calls by a contract that may make and write -/
theorem callX (X : Stand p l e R s m args below meth c T locs cells slots) (hx : p.tables.exec = Jvm.exec) (hZ : Z.Warmed39 s.vm) {own : String} {index : Nat} {y : MethodName} {bytes : ByteArray} {maxL : Nat} {ret : Option FieldType} (hown : s.vm.findClass own = some m.cls)
    (w1 : (Cond.methodLink own index y).before a0 Z = true) (w2 : (Cond.static y).before a0 Z = true) (w3 : (Cond.initialized y.cls).before a0 Z = true) (w4 : (Cond.code y bytes maxL ret).before a0 Z = true) (hy : y.cls ≠ "java/lang/invoke/MethodHandle" ∧ y.cls ≠ "java/lang/invoke/VarHandle")
    {rm : Room} {W : Nat} {argsL rest : List Value} {Q : Option Value → Heap → List Loc → Prop}
    (hM : MetFree l y (head1 [Cond.code y bytes maxL ret] rm) (fun a U => a = argsL.toArray ∧ Z.Warmed39 U.vm ∧ U.heap = h) (fun _ _ _ _ _ => True) (fun _ U o U' => ∃ v L, o = .returned v ∧ Q v U'.heap L ∧ FrameEnd U o U' L rm.cells rm.slots))
    (hf : rm.frames + 1 ≤ R.frames) (hl : W + (maxL + 11) + rm.locals ≤ R.locals) (hc : cells + rm.cells ≤ R.cells) (hs : slots + rm.slots ≤ R.slots) (eT : T.heap = h) {g : JFrame} (hg : g.method = m) (hsize : g.locals.size = c.maxLocals) (hlen : ∀ sig, parseMethodDescriptor y.desc = some sig → argsL.length = sig.parameters.length)
    (hstack : g.stack = argsL.reverse ++ rest) (hW : 2 * g.monitorRoom + (rest.map fun v => v.category).sum ≤ W) (hd : decode c.code g.pc = .ok (.invokestatic index, 3)) :
    ∃ v T' h' L, Stand p l e R s m args below meth c T' (locs ++ L) (cells + rm.cells) (slots + rm.slots) ∧ T'.heap = h' ∧ Q v h' L ∧ ∀ target, Steps p.tables e below (T'.setTop { g with pc := g.pc + 3, stack := v.toList ++ rest }) target → Steps p.tables e below (T.setTop g) target := by
  obtain ⟨v, _, ⟨T18, L18, k18, n18⟩, -, X18, ⟨Lc, hq, l18, y18, z18⟩, st⟩ := Jvm.LawKit.callS X hx hown (mvT hZ w1) (mvT hZ w2) (mvT hZ w3) (mvT hZ w4) hy (backOf (W := W) hM hZ w4 w3 hf hl) hg hsize hlen hstack hW hd (fun _ _ => ⟨rfl, eT, hc, hs⟩)
  dsimp only [Pt.U, Pt.locs, Pt.cells, Pt.slots] at X18 l18 y18 z18 st hq
  subst l18 y18 z18
  exact ⟨v, T18, _, Lc, X18, rfl, hq, st⟩
theorem callXV (X : Stand p l e R s m args below meth c T locs cells slots) (hx : p.tables.exec = Jvm.exec) (hZ : Z.Warmed39 s.vm) {own C : String} {index : Nat} {y z : MethodName} {bytes : ByteArray} {maxL : Nat} {ret : Option FieldType} (hown : s.vm.findClass own = some m.cls)
    (w1 : (Cond.methodLink own index y).before a0 Z = true) (w2 : (Cond.declares y).before a0 Z = true) (w3 : (Cond.selects C y z).before a0 Z = true) (w4 : (Cond.instanceMethod z).before a0 Z = true) (w5 : (Cond.code z bytes maxL ret).before a0 Z = true) (w6 : (Cond.initialized z.cls).before a0 Z = true) (hnf : NotFace s y) (hy : y.cls ≠ "java/lang/invoke/MethodHandle" ∧ y.cls ≠ "java/lang/invoke/VarHandle")
    {rm : Room} {W : Nat} {argsL rest : List Value} {Q : Option Value → Heap → List Loc → Prop}
    (hM : MetFree l z (head1 [Cond.code z bytes maxL ret] rm) (fun a U => a = (.ref b :: argsL).toArray ∧ Z.Warmed39 U.vm ∧ U.heap = h) (fun _ _ _ _ _ => True) (fun _ U o U' => ∃ v L, o = .returned v ∧ Q v U'.heap L ∧ FrameEnd U o U' L rm.cells rm.slots))
    (hf : rm.frames + 1 ≤ R.frames) (hl : W + (maxL + 11) + rm.locals ≤ R.locals) (hc : cells + rm.cells ≤ R.cells) (hs : slots + rm.slots ≤ R.slots) (eT : T.heap = h) (E : Exa Z h b C) {g : JFrame} (hg : g.method = m) (hsize : g.locals.size = c.maxLocals) (hlen : ∀ sig, parseMethodDescriptor y.desc = some sig → argsL.length = sig.parameters.length)
    (hstack : g.stack = argsL.reverse ++ .ref b :: rest) (hW : 2 * g.monitorRoom + (rest.map fun v => v.category).sum ≤ W) (hd : decode c.code g.pc = .ok (.invokevirtual index, 3)) :
    ∃ v T' h' L, Stand p l e R s m args below meth c T' (locs ++ L) (cells + rm.cells) (slots + rm.slots) ∧ T'.heap = h' ∧ Q v h' L ∧ ∀ target, Steps p.tables e below (T'.setTop { g with pc := g.pc + 3, stack := v.toList ++ rest }) target → Steps p.tables e below (T.setTop g) target := by
  obtain ⟨cq, kq, qa, qb, qc⟩ := isOf hZ eT E
  obtain ⟨v, _, ⟨T18, L18, k18, n18⟩, -, X18, ⟨Lc, hq, l18, y18, z18⟩, st⟩ := X.virtualBack hx hown (mvT hZ w1) (mvT hZ w2) hnf (mvT hZ w3) (mvT hZ w4) hy (backOf (W := W) hM hZ w5 w6 hf hl) qa qc hg hsize (Steps.refl _) hlen hstack hW hd (fun _ _ => ⟨rfl, eT, hc, hs⟩)
  dsimp only [Pt.U, Pt.locs, Pt.cells, Pt.slots] at X18 l18 y18 z18 st hq
  subst l18 y18 z18
  exact ⟨v, T18, _, Lc, X18, rfl, hq, fun _ k => st.trans k⟩
theorem callXP (X : Stand p l e R s m args below meth c T locs cells slots) (hx : p.tables.exec = Jvm.exec) (hZ : Z.Warmed39 s.vm) {own C : String} {index ki : Nat} {y : MethodName} {bytes : ByteArray} {maxL : Nat} {ret : Option FieldType} (hown : s.vm.findClass own = some m.cls)
    (w1 : (Cond.methodLink own index y).before a0 Z = true) (w4 : (Cond.instanceMethod y).before a0 Z = true) (wp : (Cond.privateMethod y).before a0 Z = true) (wi : (Cond.instantiable y.cls ki).before a0 Z = true) (w5 : (Cond.code y bytes maxL ret).before a0 Z = true) (w6 : (Cond.initialized y.cls).before a0 Z = true) (hy : y.cls ≠ "java/lang/invoke/MethodHandle" ∧ y.cls ≠ "java/lang/invoke/VarHandle")
    {rm : Room} {W : Nat} {argsL rest : List Value} {Q : Option Value → Heap → List Loc → Prop}
    (hM : MetFree l y (head1 [Cond.code y bytes maxL ret] rm) (fun a U => a = (.ref b :: argsL).toArray ∧ Z.Warmed39 U.vm ∧ U.heap = h) (fun _ _ _ _ _ => True) (fun _ U o U' => ∃ v L, o = .returned v ∧ Q v U'.heap L ∧ FrameEnd U o U' L rm.cells rm.slots))
    (hf : rm.frames + 1 ≤ R.frames) (hl : W + (maxL + 11) + rm.locals ≤ R.locals) (hc : cells + rm.cells ≤ R.cells) (hs : slots + rm.slots ≤ R.slots) (eT : T.heap = h) (E : Exa Z h b C) {g : JFrame} (hg : g.method = m) (hsize : g.locals.size = c.maxLocals) (hlen : ∀ sig, parseMethodDescriptor y.desc = some sig → argsL.length = sig.parameters.length)
    (hstack : g.stack = argsL.reverse ++ .ref b :: rest) (hW : 2 * g.monitorRoom + (rest.map fun v => v.category).sum ≤ W) (hd : decode c.code g.pc = .ok (.invokevirtual index, 3)) :
    ∃ v T' h' L, Stand p l e R s m args below meth c T' (locs ++ L) (cells + rm.cells) (slots + rm.slots) ∧ T'.heap = h' ∧ Q v h' L ∧ ∀ target, Steps p.tables e below (T'.setTop { g with pc := g.pc + 3, stack := v.toList ++ rest }) target → Steps p.tables e below (T.setTop g) target := by
  have hp : s.PrivateAt y := Cond.privateMethod_at (mvP hZ wp (args := #[]))
  obtain ⟨cc, kk, hcc, hkk, -, hni, -, -⟩ := Cond.instantiable_spec (args := #[]) (mvT hZ wi)
  have hsel : (Cond.selects y.cls y y).before args s = true := selects_self_of_private hcc hkk (Bool.or_eq_false_iff.mp hni).1 hp (mvT hZ w4) hy
  obtain ⟨cq, q3, q3'⟩ := E.cell
  obtain ⟨v, _, ⟨T18, L18, k18, n18⟩, -, X18, ⟨Lc, hq, l18, y18, z18⟩, st⟩ := X.privateBack hx hown (mvT hZ w1) (mvT hZ w4) hsel hp (mvT hZ w5) hy (backOf (W := W) hM hZ w5 w6 hf hl) hg hsize (Steps.refl _) (a := b) (by rw [eT]; exact q3) q3' hlen hstack hW hd (fun _ _ => ⟨rfl, eT, hc, hs⟩)
  dsimp only [Pt.U, Pt.locs, Pt.cells, Pt.slots] at X18 l18 y18 z18 st hq
  subst l18 y18 z18
  exact ⟨v, T18, _, Lc, X18, rfl, hq, fun _ k => st.trans k⟩
theorem callXI (X : Stand p l e R s m args below meth c T locs cells slots) (hx : p.tables.exec = Jvm.exec) (hZ : Z.Warmed39 s.vm) {own : String} {index : Nat} {y : MethodName} {bytes : ByteArray} {maxL : Nat} (hown : s.vm.findClass own = some m.cls) (hy1 : y.name = "<init>")
    (w1 : (Cond.methodLink own index y).before a0 Z = true) (w4 : (Cond.instanceMethod y).before a0 Z = true) (w5 : (Cond.code y bytes maxL none).before a0 Z = true) (w6 : (Cond.initialized y.cls).before a0 Z = true) (hy : y.cls ≠ "java/lang/invoke/MethodHandle" ∧ y.cls ≠ "java/lang/invoke/VarHandle")
    {rm : Room} {W : Nat} {argsL rest : List Value} {Q : Option Value → Heap → List Loc → Prop}
    (hM : MetFree l y (head1 [Cond.code y bytes maxL none] rm) (fun a U => a = (.ref b :: argsL).toArray ∧ Z.Warmed39 U.vm ∧ U.heap = h) (fun _ _ _ _ _ => True) (fun _ U o U' => ∃ v L, o = .returned v ∧ Q v U'.heap L ∧ FrameEnd U o U' L rm.cells rm.slots))
    (hf : rm.frames + 1 ≤ R.frames) (hl : W + (maxL + 11) + rm.locals ≤ R.locals) (hc : cells + rm.cells ≤ R.cells) (hs : slots + rm.slots ≤ R.slots) (eT : T.heap = h) {g : JFrame} (hg : g.method = m) (hsize : g.locals.size = c.maxLocals) (hlen : ∀ sig, parseMethodDescriptor y.desc = some sig → argsL.length = sig.parameters.length)
    (hstack : g.stack = argsL.reverse ++ .ref b :: rest) (hW : 2 * g.monitorRoom + (rest.map fun v => v.category).sum ≤ W) (hd : decode c.code g.pc = .ok (.invokespecial index, 3)) :
    ∃ v T' h' L, Stand p l e R s m args below meth c T' (locs ++ L) (cells + rm.cells) (slots + rm.slots) ∧ T'.heap = h' ∧ Q v h' L ∧ ∀ target, Steps p.tables e below (T'.setTop { g with pc := g.pc + 3, stack := v.toList ++ rest }) target → Steps p.tables e below (T.setTop g) target := by
  obtain ⟨v, _, ⟨T18, L18, k18, n18⟩, -, X18, ⟨Lc, hq, l18, y18, z18⟩, st⟩ := X.specialBack hx hy1 hown (mvT hZ w1) (mvT hZ w4) (mvT hZ w5) hy (backOf (W := W) hM hZ w5 w6 hf hl) hg hsize (Steps.refl _) hlen hstack hW hd (fun _ _ => ⟨rfl, eT, hc, hs⟩)
  dsimp only [Pt.U, Pt.locs, Pt.cells, Pt.slots] at X18 l18 y18 z18 st hq
  subst l18 y18 z18
  exact ⟨v, T18, _, Lc, X18, rfl, hq, fun _ k => st.trans k⟩
/-- arrays as lists, for System.arraycopy -/
theorem Ari.arv (F : Ari Z h a ty n f) : ∃ k, Arv Z h a k ty (Int32.ofNat n) ((List.range n).map fun j => Value.int (f j)) (.int 0) := by
  obtain ⟨cl, A, h1, h2, h3⟩ := F
  have ez : (Int32.ofNat n).toInt = n := Int32.toInt_ofNat_of_lt h2
  have h0 : ¬ Int32.ofNat n < 0 := by rw [Int32.lt_iff_toInt_lt, ez]; have : (0 : Int32).toInt = 0 := rfl; omega
  have hk : (Int32.ofNat n).toNatClampNeg = n := by have := nat_of h0; omega
  have q : ∀ i, i < n → ((List.range n).map fun j => Value.int (f j)).getD i (.int 0) = .int (f i) := fun i hi => by simp [List.getD_eq_getElem?_getD, hi]
  exact ⟨cl.cls, cl, A, rfl, by rw [hk]; exact h1, h0, fun i hi => by rw [q i (h1 ▸ hi)]; exact (h3 i (h1 ▸ hi)).1, fun i hi => by rw [q i (h1 ▸ hi)]; exact (h3 i (h1 ▸ hi)).2⟩
theorem Ari.of_arv {k : ClassId} {vs : List Value} {d : Value} {g : Nat → Int32} (F : Arv Z h a k ty (Int32.ofNat n) vs d) (hn : n < 2 ^ 31) (q : ∀ j, j < n → vs.getD j d = .int (g j)) : Ari Z h a ty n g := by
  obtain ⟨cl, A, -, h1, h0, H, G⟩ := F
  have ez : (Int32.ofNat n).toInt = n := Int32.toInt_ofNat_of_lt hn
  have hk : (Int32.ofNat n).toNatClampNeg = n := by have := nat_of h0; omega
  rw [hk] at h1
  exact ⟨cl, A, h1, hn, fun j hj => by rw [← q j hj]; exact ⟨H j (h1 ▸ hj), G j (h1 ▸ hj)⟩⟩
def blit (f g : Nat → Int32) (sp dp k : Nat) : Nat → Int32 := fun j => if dp ≤ j ∧ j < dp + k then f (sp + (j - dp)) else g j
theorem own_blit (f g : Nat → Int32) (n N sp dp k : Nat) (h1 : sp + k ≤ n) (h2 : dp + k ≤ N) (j : Nat) (hj : j < N) :
    (((List.range N).map fun j => Value.int (g j)).take dp ++ ((List.range k).map fun i => ((List.range n).map fun j => Value.int (f j)).getD (sp + i) (.int 0)) ++ ((List.range N).map fun j => Value.int (g j)).drop (dp + k)).getD j (.int 0) = .int (blit f g sp dp k j) := by
  simp only [blit, List.getD_eq_getElem?_getD]
  by_cases q1 : j < dp
  · have e : ¬ (dp ≤ j ∧ j < dp + k) := by omega
    rw [if_neg e, List.append_assoc, List.getElem?_append_left (by simp; omega)]
    simp [List.getElem?_take, q1, hj]
  · by_cases q2 : j < dp + k
    · rw [if_pos ⟨by omega, q2⟩, List.append_assoc, List.getElem?_append_right (by simp; omega), List.getElem?_append_left (by simp; omega)]
      have e1 : min dp N = dp := by omega
      have e2 : j - dp < k := by omega
      have e3 : sp + (j - dp) < n := by omega
      simp [e1, e2, e3]
    · have e : ¬ (dp ≤ j ∧ j < dp + k) := by omega
      rw [if_neg e, List.append_assoc, List.getElem?_append_right (by simp; omega), List.getElem?_append_right (by simp; omega)]
      have e1 : min dp N = dp := by omega
      have e2 : dp + k + (j - dp - k) = j := by omega
      simp [e1, e2, hj]
theorem copyI (X : Stand p l e R s m args below meth c T locs cells slots) (hx : p.tables.exec = Jvm.exec) (hZ : Z.Warmed39 s.vm) {own : String} {index : Nat} (hown : s.vm.findClass own = some m.cls)
    (w1 : (Cond.methodLink own index Jvm.Stand.acN).before a0 Z = true) (w2 : (Cond.native Jvm.Stand.acN).before a0 Z = true) (w3 : (Cond.static Jvm.Stand.acN).before a0 Z = true) (w4 : (Cond.initialized "java/lang/System").before a0 Z = true) (eT : T.heap = h)
    {N sp dp k : Nat} {g' : Nat → Int32} {zs zd zk : Int32} (A : Ari Z h a ty n f) (B : Ari Z h b ty N g') (hty : refKind ty = false) (es : zs = Int32.ofNat sp) (ed : zd = Int32.ofNat dp) (ek : zk = Int32.ofNat k) (h1 : sp + k ≤ n) (h2 : dp + k ≤ N) {n0 : Nat} (NF : Fr n0 locs) (ge : n0 ≤ b)
    {g : JFrame} (hg : g.method = m) (hsize : g.locals.size = c.maxLocals) {rest : List Value} (hs : g.stack = .int zk :: .int zd :: .ref b :: .int zs :: .ref a :: rest) (hd : decode c.code g.pc = .ok (.invokestatic index, 3))
    (hf : 1 ≤ R.frames) {W : Nat} (hW : 2 * g.monitorRoom + (rest.map fun v => v.category).sum ≤ W) (hlo : W + (nativeFrameWords "java/lang/System" "arraycopy" 5 + 11) ≤ R.locals) :
    ∃ T' h' L, Stand p l e R s m args below meth c T' L cells slots ∧ T'.heap = h' ∧ Fr n0 L ∧ Keep h h' [b] ∧ Ari Z h' b ty N (blit f g' sp dp k) ∧
      ∀ target, Steps p.tables e below (T'.setTop { g with pc := g.pc + 3, stack := rest }) target → Steps p.tables e below (T.setTop g) target := by
  have hn : n < 2 ^ 31 := by obtain ⟨_, _, _, q, _⟩ := A; exact q
  have hN : N < 2 ^ 31 := by obtain ⟨_, _, _, q, _⟩ := B; exact q
  have nz : ∀ {z : Int32} {i : Nat}, z = Int32.ofNat i → i < 2 ^ 31 → ¬ z < 0 ∧ z.toNatClampNeg = i := fun {z i} e hi => by
    have ez : z.toInt = i := by rw [e]; exact Int32.toInt_ofNat_of_lt hi
    have h0 : ¬ z < 0 := by rw [Int32.lt_iff_toInt_lt, ez]; have : (0 : Int32).toInt = 0 := rfl; omega
    exact ⟨h0, by have := nat_of h0; omega⟩
  obtain ⟨ka, VA⟩ := A.arv
  obtain ⟨kb, VB⟩ := B.arv
  obtain ⟨s1, s2⟩ := nz es (by omega)
  obtain ⟨d1, d2⟩ := nz ed (by omega)
  obtain ⟨k1, k2⟩ := nz ek (by omega)
  have n2 := (nz (rfl : Int32.ofNat n = Int32.ofNat n) hn).2
  have N2 := (nz (rfl : Int32.ofNat N = Int32.ofNat N) hN).2
  obtain ⟨T', h', L, X', e', F', K', V', st⟩ := cpA X hx hZ hown w1 w2 w3 w4 eT (sp := zs) (dp := zd) (nn := zk) VA VB (Or.inl ⟨rfl, hty⟩) s1 d1 k1 (by rw [s2, k2, n2]; exact h1) (by rw [d2, k2, N2]; exact h2) rfl (by rw [d2, k2]; simp; exact h2) NF ge hg hsize hs hd hf hW hlo
  refine ⟨T', h', L, X', e', F', K', Ari.of_arv V' hN fun j hj => ?_, st⟩
  rw [s2, d2, k2]
  exact own_blit f g' n N sp dp k h1 h2 j hj
/-- a class of objects that isn't a subclass of another one -/
theorem own_noinst {C S K : String} {ki : Nat} (w : (Cond.superclass C S).before a0 Z = true) (wr : (Cond.noSuperclass S).before a0 Z = true) (wi : (Cond.instantiable K ki).before a0 Z = true) (h1 : S ≠ K) (h2 : C ≠ K) : ∃ c t, Z.vm.findClass C = some c ∧ Z.vm.findClass K = some t ∧ Z.vm.assignable c t = false := by
  obtain ⟨t, kt, g1, g2, g3, g4, -⟩ := Cond.instantiable_spec wi
  have root : NS Z S K := by
    obtain ⟨c, k, q1, q2, q3, -, -⟩ := Cond.noSuperclass_spec wr
    have ne := ids_ne q1 g1 h1
    refine ⟨c, t, q1, g1, fun fuel => ?_⟩
    cases fuel with
    | zero => rfl
    | succ f => simp [Vm.isSubclassAux, ne, q2, q3]
  obtain ⟨c, t', h0, g0, n3⟩ := NS.step w root h2
  cases g1.symm.trans g0
  obtain ⟨p, k, kp, r1, r2, r3, r4, r5, -, r7⟩ := Cond.superclass_spec h0 w
  have ne := ids_ne h0 g1 h2
  refine ⟨c, t, h0, g1, ?_⟩
  show Z.vm.assignableAux (255 + 1) c t = false
  have gi := (Bool.or_eq_false_iff.mp g4).1
  simp [Vm.assignableAux, ne, r2, g2, r5, g3, gi, Vm.isSubclass, n3]
end OwnHeap
end Jvm.RoadKit
namespace Jvm.RoadKit
open Sem ClassFile Op Lib Jvm.Stand Jvm.Free Jvm.LawKit
section OwnStr
variable {p : Program} {l : Launch} {e : Env} {R : Room} {s : State} {m : MethodId} {args : Array Value} {below : List Frame} {meth : Method} {c : Code} {T : State} {locs : List Loc} {cells slots : Nat} {Z : State} {a0 : Array Value} {h h' : Heap} {a b : Addr} {ty : FieldType} {n : Nat} {f : Nat → Int32}
theorem own_shr0 (x : Int32) : x >>> ((0 : Int32) &&& 31) = x := by
  apply Int32.toInt_inj.mp
  rw [c_ishr x 0 0 (by decide)]
  simp
theorem own_shl0 (x : Int32) : x <<< ((0 : Int32) &&& 31) = x := by
  apply Int32.toInt_inj.mp
  have q := c_ishl x 0 0 (by decide)
  have r1 := rng32 x
  have r2 := rng32 (x <<< ((0 : Int32) &&& 31))
  simp only [Nat.pow_zero] at q
  omega
theorem own_declares {y : MethodName} {bytes : ByteArray} {maxL : Nat} {ret : Option FieldType} (w4 : (Cond.instanceMethod y).before a0 Z = true) (w5 : (Cond.code y bytes maxL ret).before a0 Z = true) : (Cond.declares y).before a0 Z = true := by
  obtain ⟨mk, methM, hnamed, hmethM, hst, hab⟩ := Cond.instanceMethod_spec w4
  obtain ⟨methM', cM, q1, -, -, -, -, -, -, hsig⟩ := Cond.code_spec hnamed w5
  cases hmethM.symm.trans q1
  simp [Cond.before, Cond.holds, Cond.value, hnamed, hmethM, hst, hsig]
theorem own_nf {y y' : MethodName} {C : String} (ws : (Cond.selects C y' y').before a0 Z = true) (hc : y'.cls = y.cls) : NotFace Z y := fun r0 h0 => by
  obtain ⟨c2, r2, m2, q1, q2, q3, q4, kP, hkP, hkPi⟩ := Cond.selects_spec ws
  have e1 := findClass_of_methodNamed q3
  have e2 := findClass_of_methodNamed h0
  rw [hc] at e1
  have e3 : m2.cls = r0.cls := Option.some.inj (e1.symm.trans e2)
  exact ⟨kP, by rw [← e3]; exact hkP, hkPi⟩
theorem own_sameM {y y' : MethodName} {C : String} (w4 : (Cond.instanceMethod y).before a0 Z = true) (ws : (Cond.selects C y' y').before a0 Z = true) (hc : y'.cls = y.cls) (hy : y.cls ≠ "java/lang/invoke/MethodHandle" ∧ y.cls ≠ "java/lang/invoke/VarHandle") : (Cond.sameMethod y.cls y.cls y.name y.desc).before a0 Z = true := by
  obtain ⟨mk, methM, hnamed, hmethM, hst, hab⟩ := Cond.instanceMethod_spec w4
  have hfound := State.methodFound?_of_named hnamed hy
  have e2 := findClass_of_methodNamed hnamed
  obtain ⟨kr, hk, hi⟩ := own_nf ws hc mk hnamed
  have hn' : Z.methodNamed? ⟨y.cls, y.name, y.desc⟩ = some mk := hnamed
  simp [Cond.before, Cond.holds, Cond.value, e2, hfound, hn', hk, hi]
/-- a body that returns r (or nothing) and leaves the heap as it was -/
def PQ (h0 : Heap) (r : Option Value) (v : Option Value) (h : Heap) (L : List Loc) : Prop := v = r ∧ L = [] ∧ h = h0
theorem callXS (X : Stand p l e R s m args below meth c T locs cells slots) (hx : p.tables.exec = Jvm.exec) (hZ : Z.Warmed39 s.vm) {own C : String} {index : Nat} {y : MethodName} {bytes : ByteArray} {maxL : Nat} {ret : Option FieldType} (hown : s.vm.findClass own = some m.cls)
    (w1 : (Cond.methodLink own index y).before a0 Z = true) (w2 : (Cond.sameMethod y.cls y.cls y.name y.desc).before a0 Z = true) (w3 : (Cond.instanceMethod y).before a0 Z = true) (w4 : (Cond.superclass own y.cls).before a0 Z = true) (w5 : (Cond.code y bytes maxL ret).before a0 Z = true) (w6 : (Cond.initialized y.cls).before a0 Z = true) (hn : y.name ≠ "<init>")
    {rm : Room} {W : Nat} {argsL rest : List Value} {Q : Option Value → Heap → List Loc → Prop}
    (hM : MetFree l y (head1 [Cond.code y bytes maxL ret] rm) (fun a U => a = (.ref b :: argsL).toArray ∧ Z.Warmed39 U.vm ∧ U.heap = h) (fun _ _ _ _ _ => True) (fun _ U o U' => ∃ v L, o = .returned v ∧ Q v U'.heap L ∧ FrameEnd U o U' L rm.cells rm.slots))
    (hf : rm.frames + 1 ≤ R.frames) (hl : W + (maxL + 11) + rm.locals ≤ R.locals) (hc : cells + rm.cells ≤ R.cells) (hs : slots + rm.slots ≤ R.slots) (eT : T.heap = h) (E : Exa Z h b C) {g : JFrame} (hg : g.method = m) (hsize : g.locals.size = c.maxLocals) (hlen : ∀ sig, parseMethodDescriptor y.desc = some sig → argsL.length = sig.parameters.length)
    (hstack : g.stack = argsL.reverse ++ .ref b :: rest) (hW : 2 * g.monitorRoom + (rest.map fun v => v.category).sum ≤ W) (hd : decode c.code g.pc = .ok (.invokespecial index, 3)) :
    ∃ v T' h' L, Stand p l e R s m args below meth c T' (locs ++ L) (cells + rm.cells) (slots + rm.slots) ∧ T'.heap = h' ∧ Q v h' L ∧ ∀ target, Steps p.tables e below (T'.setTop { g with pc := g.pc + 3, stack := v.toList ++ rest }) target → Steps p.tables e below (T.setTop g) target := by
  obtain ⟨v, _, ⟨T18, L18, k18, n18⟩, -, X18, ⟨Lc, hq, l18, y18, z18⟩, st⟩ := superBack X hx hZ hown w1 w2 w3 w4 hn (backOf (W := W) hM hZ w5 w6 hf hl) eT (Ins.self E) hg hsize w5 hlen hstack hW hd (fun _ _ => ⟨rfl, eT, hc, hs⟩)
  dsimp only [Pt.U, Pt.locs, Pt.cells, Pt.slots] at X18 l18 y18 z18 st hq
  subst l18 y18 z18
  exact ⟨v, T18, _, Lc, X18, rfl, hq, fun _ k => st.trans k⟩
/-- what a call of such a body leaves -/
theorem own_pure {F W0 : Nat} {g : JFrame} {rest : List Value} {r : Option Value} {Q : Option Value → Heap → List Loc → Prop} (hQ : ∀ v h' L, Q v h' L → PQ h r v h' L)
    (q : ∃ v T' h' L, Stand p l e R s m args below meth c T' (locs ++ L) (cells + ({ frames := F, cells := 0, slots := 0, locals := W0 } : Room).cells) (slots + ({ frames := F, cells := 0, slots := 0, locals := W0 } : Room).slots) ∧ T'.heap = h' ∧ Q v h' L ∧ ∀ target, Steps p.tables e below (T'.setTop { g with pc := g.pc + 3, stack := v.toList ++ rest }) target → Steps p.tables e below (T.setTop g) target) :
    ∃ T', Stand p l e R s m args below meth c T' locs cells slots ∧ T'.heap = h ∧ ∀ target, Steps p.tables e below (T'.setTop { g with pc := g.pc + 3, stack := r.toList ++ rest }) target → Steps p.tables e below (T.setTop g) target := by
  obtain ⟨v, T', h', L, X', e', hq, st⟩ := q
  obtain ⟨rfl, rfl, rfl⟩ := hQ _ _ _ hq
  rw [List.append_nil] at X'
  exact ⟨T', X', e', st⟩
/-- a new array, with its class -/
theorem newIE (X : Stand p l e R s m args below meth c T locs cells slots) (hx : p.tables.exec = Jvm.exec) (hZ : Z.Warmed39 s.vm) {aty : ArrayType} (w : (Cond.arrayClass (newarray.typeOf aty)).before a0 Z = true) (eT : T.heap = h) {g : JFrame} (hg : g.method = m) (hd : decode c.code g.pc = .ok (.newarray aty, 2)) {z : Int32} {rest : List Value} (hs : g.stack = .int z :: rest)
    {N : Nat} (hz : z = Int32.ofNat N) {cap : Nat} (hcap : N ≤ cap) (hb : cap * 8 ≤ 536870912) (hc : cells + 1 ≤ R.cells) (hl : slots + cap ≤ R.slots) (hdv : defaultValue (newarray.typeOf aty) = .int 0) (hft : fits (newarray.typeOf aty) (.int 0) = true) {ad : String} (had : "[" ++ (newarray.typeOf aty).toString = ad) :
    ∃ T' h', Stand p l e R s m args below meth c T' locs (cells + 1) (slots + cap) ∧ T'.heap = h' ∧ Ext h h' ∧ Ari Z h' h.size (newarray.typeOf aty) N (fun _ => 0) ∧ Exa Z h' h.size ad ∧ ∀ target, Steps p.tables e below (T'.setTop { g with pc := g.pc + 2, stack := .ref h.size :: rest }) target → Steps p.tables e below (T.setTop g) target := by
  have hN : N < 2 ^ 31 := by omega
  have ez : z.toInt = N := by rw [hz]; exact Int32.toInt_ofNat_of_lt hN
  have h0 : ¬ z < 0 := by rw [Int32.lt_iff_toInt_lt, ez]; have : (0 : Int32).toInt = 0 := rfl; omega
  have hn : z.toNatClampNeg = N := by have := nat_of h0; omega
  obtain ⟨T', h', cA, X', e', E, A, EA, st⟩ := newPE X hx hZ w eT hg hd hs h0 (cap := cap) (by omega) hb hc hl had
  refine ⟨T', h', X', e', E, ⟨_, A, by rw [sz_new, hn], hN, fun j hj => ⟨?_, hft⟩⟩, EA, st⟩
  simp [newA, hn, hj, hdv]
/-- clone() of a byte[] -/
theorem cloneI (X : Stand p l e R s m args below meth c T locs cells slots) (hx : p.tables.exec = Jvm.exec) (hZ : Z.Warmed39 s.vm) {own ad : String} {index : Nat} (hown : s.vm.findClass own = some m.cls)
    (w1 : (Cond.methodLink own index ⟨ad, "clone", "()Ljava/lang/Object;"⟩).before a0 Z = true) (w2 : (Cond.sameMethod ad "java/lang/Object" "clone" "()Ljava/lang/Object;").before a0 Z = true) (w3 : (Cond.native ⟨"java/lang/Object", "clone", "()Ljava/lang/Object;"⟩).before a0 Z = true)
    (w4 : (Cond.instanceMethod ⟨"java/lang/Object", "clone", "()Ljava/lang/Object;"⟩).before a0 Z = true) (w5 : (Cond.selects ad ⟨ad, "clone", "()Ljava/lang/Object;"⟩ ⟨"java/lang/Object", "clone", "()Ljava/lang/Object;"⟩).before a0 Z = true) (w6 : (Cond.castable ad "java/lang/Cloneable").before a0 Z = true)
    (eT : T.heap = h) (F : Ari Z h a ty n f) (E : Exa Z h a ad) {g : JFrame} (hg : g.method = m) (hsize : g.locals.size = c.maxLocals) {rest : List Value} (hst : g.stack = .ref a :: rest) (hd : decode c.code g.pc = .ok (.invokevirtual index, 3))
    (hf : 1 ≤ R.frames) {W cap : Nat} (hW : 2 * g.monitorRoom + (rest.map fun v => v.category).sum ≤ W) (hl : W + 14 ≤ R.locals) (hcap : n ≤ cap) (hc : cells + 1 ≤ R.cells) (hsl : slots + cap ≤ R.slots) :
    ∃ T' h', Stand p l e R s m args below meth c T' locs (cells + 1) (slots + cap) ∧ T'.heap = h' ∧ Ext h h' ∧ Ari Z h' h.size ty n f ∧ Exa Z h' h.size ad ∧
      ∀ target, Steps p.tables e below (T'.setTop { g with pc := g.pc + 3, stack := .ref h.size :: rest }) target → Steps p.tables e below (T.setTop g) target := by
  have hN : n < 2 ^ 31 := by obtain ⟨_, _, _, q, _⟩ := F; exact q
  obtain ⟨k, V⟩ := F.arv
  have ez : (Int32.ofNat n).toInt = n := Int32.toInt_ofNat_of_lt hN
  have h0 : ¬ Int32.ofNat n < 0 := by rw [Int32.lt_iff_toInt_lt, ez]; have : (0 : Int32).toInt = 0 := rfl; omega
  have hk : (Int32.ofNat n).toNatClampNeg = n := by have := nat_of h0; omega
  obtain ⟨T', h', X', e', Ex, A', E', st⟩ := cloneH X hx hZ hown w1 w2 w3 w4 w5 w6 eT V.arh E hg hsize hst hd hf hW hl (by rw [hk]; exact hcap) hc hsl
  refine ⟨T', h', X', e', Ex, Ari.of_arv (k := k) (vs := (List.range n).map fun j => Value.int (f j)) (d := .int 0) A' hN fun j hj => ?_, E', st⟩
  simp [List.getD_eq_getElem?_getD, hj]
/-- what is left of a body that may intern a constant -/
def GoesW (p : Program) (e : Env) (below : List Frame) (s : State) (K N : Nat) (Q : Option Value → Heap → List Loc → Prop) (T : State) (g : JFrame) : Prop :=
  ∃ s₂ o, Steps p.tables e below (T.setTop g) s₂ ∧ s₂.status = .running ∧ Ended s₂ below o ∧ ∃ v L, o = .returned v ∧ Q v s₂.heap L ∧ ReturnedEndW s o s₂ L K N
theorem GoesW.step {K N : Nat} {Q : Option Value → Heap → List Loc → Prop} {T' : State} {g g' : JFrame} (k : ∀ t, Steps p.tables e below (T'.setTop g') t → Steps p.tables e below (T.setTop g) t) (h : GoesW p e below s K N Q T' g') : GoesW p e below s K N Q T g := by
  obtain ⟨s₂, o, h1, h2⟩ := h
  exact ⟨s₂, o, k _ h1, h2⟩
theorem GoesW.outN {vm₁ : Vm} {k1 : Nat} (X : Stand p l e R (s.setVm vm₁) m args below meth c T locs cells slots) (hS : s.Since vm₁ k1) (hn1 : k1 ≤ T.heap.size) (hx : p.tables.exec = Jvm.exec) (hlk : meth.locks = false) {t : FieldType} (hret : meth.sig.returnType = some t) (ht : t = .boolean ∨ t = .byte ∨ t = .char ∨ t = .short) {pc : Nat} (hd : decode c.code pc = .ok (.ireturn, 1)) {Ls : Array Slot} {z : Int32} {rest : List Value} {K N : Nat} {Q : Option Value → Heap → List Loc → Prop}
    (hq : Q (some (.int (nar t z))) T.heap locs) (hk : cells ≤ K) (hn : slots ≤ N) : GoesW p e below s K N Q T (mkF m pc Ls (.int z :: rest)) := by
  obtain ⟨fs, hr, hrun, hended, w1, w2, w3, w4⟩ := X.leaveW hS hn1 (v := some (.int (nar t z))) (fun h => by rw [hret] at h; cases h) hlk
  exact ⟨_, _, retN X hx hret ht hd hr, hrun, hended, _, _, rfl, hq, w1, w2, w3, w4.mono hk hn⟩
theorem GoesW.outR {vm₁ : Vm} {k1 : Nat} (X : Stand p l e R (s.setVm vm₁) m args below meth c T locs cells slots) (hS : s.Since vm₁ k1) (hn1 : k1 ≤ T.heap.size) (hx : p.tables.exec = Jvm.exec) (hlk : meth.locks = false) {t : FieldType} (hret : meth.sig.returnType = some t) (ht : t.isReference = true) {w : Value} (hw : w.isRef = true) {pc : Nat} (hd : decode c.code pc = .ok (.areturn, 1)) {Ls : Array Slot} {K N : Nat} {Q : Option Value → Heap → List Loc → Prop}
    (hq : Q (some w) T.heap locs) (hk : cells ≤ K) (hn : slots ≤ N) : GoesW p e below s K N Q T (mkF m pc Ls [w]) := by
  obtain ⟨fs, hr, hrun, hended, w1, w2, w3, w4⟩ := X.leaveW hS hn1 (v := some w) (fun h => by rw [hret] at h; cases h) hlk
  exact ⟨_, _, X.areturnOut hx hw hret ht hd hr, hrun, hended, _, _, rfl, hq, w1, w2, w3, w4.mono hk hn⟩
/-- a static call of a body that may intern -/
theorem callXW (X : Stand p l e R s m args below meth c T locs cells slots) (hx : p.tables.exec = Jvm.exec) (hZ : Z.Warmed39 s.vm) (hI : s.vm.interned = Z.vm.interned) {own : String} {index : Nat} {y : MethodName} {bytes : ByteArray} {maxL : Nat} {ret : Option FieldType} (hown : s.vm.findClass own = some m.cls)
    (w1 : (Cond.methodLink own index y).before a0 Z = true) (w2 : (Cond.static y).before a0 Z = true) (w3 : (Cond.initialized y.cls).before a0 Z = true) (w4 : (Cond.code y bytes maxL ret).before a0 Z = true) (hy : y.cls ≠ "java/lang/invoke/MethodHandle" ∧ y.cls ≠ "java/lang/invoke/VarHandle")
    {rm : Room} {W : Nat} {argsL rest : List Value} {Q : Option Value → Heap → List Loc → Prop}
    (hM : MetFree l y (head1 [Cond.code y bytes maxL ret] rm) (fun a U => a = argsL.toArray ∧ Z.Warmed39 U.vm ∧ U.heap = h ∧ U.vm.interned = Z.vm.interned) (fun _ _ _ _ _ => True) (fun _ U o U' => ∃ v L, o = .returned v ∧ Q v U'.heap L ∧ ReturnedEndW U o U' L rm.cells rm.slots))
    (hf : rm.frames + 1 ≤ R.frames) (hl : W + (maxL + 11) + rm.locals ≤ R.locals) (hc : cells + rm.cells ≤ R.cells) (hs : slots + rm.slots ≤ R.slots) (eT : T.heap = h) {g : JFrame} (hg : g.method = m) (hsize : g.locals.size = c.maxLocals) (hlen : ∀ sig, parseMethodDescriptor y.desc = some sig → argsL.length = sig.parameters.length)
    (hstack : g.stack = argsL.reverse ++ rest) (hW : 2 * g.monitorRoom + (rest.map fun v => v.category).sum ≤ W) (hd : decode c.code g.pc = .ok (.invokestatic index, 3)) :
    ∃ v T' h' L, Stand p l e R (s.setVm T'.vm) m args below meth c T' (locs ++ L) (cells + rm.cells) (slots + rm.slots) ∧ T'.heap = h' ∧ s.Since T'.vm T'.heap.size ∧ Z.Warmed39 (s.setVm T'.vm).vm ∧ (s.setVm T'.vm).vm.findClass own = some m.cls ∧ Q v h' L ∧ ∀ target, Steps p.tables e below (T'.setTop { g with pc := g.pc + 3, stack := v.toList ++ rest }) target → Steps p.tables e below (T.setTop g) target := by
  have B : BackS l R p e below s args y 3 W (fun A a => a = argsL.toArray ∧ A.U.heap = h ∧ A.cells + rm.cells ≤ R.cells ∧ A.slots + rm.slots ≤ R.slots) (fun A _ v B => ∃ L, Q v B.U.heap L ∧ B.locs = A.locs ++ L ∧ B.cells = A.cells + rm.cells ∧ B.slots = A.slots + rm.slots) :=
    BackS.of_freeW (bytes := bytes) (maxL := maxL) (ret := ret) (E := fun _ _ o t L k n => k = rm.cells ∧ n = rm.slots ∧ ∃ v, o = .returned v ∧ Q v t.heap L) hM hf hl
      (fun m meth c A a Y hp => ⟨by show (Cond.and _ .tt).before a A.U = true; rw [Cond.before_and, mv (wtrans hZ Y.warmed) w4]; rfl, mv (wtrans hZ Y.warmed) w4, mv (wtrans hZ Y.warmed) w3, hp.2.2.1, hp.2.2.2⟩)
      (fun m meth c A a g mk Y hp => ⟨hp.1, wtrans hZ Y.warmed, hp.2.1, Y.warmed.interned_eq.trans hI⟩) (fun _ _ _ _ _ _ _ _ _ => trivial)
      (fun _ _ _ _ ⟨v, L, h1, h2, h3⟩ => ⟨L, _, _, h3, rfl, rfl, v, h1, h2⟩)
      (fun m meth c A a g mk v t L k n Y hp _ _ ⟨e1, e2, v', e3, e4⟩ => by cases e3; subst e1 e2; exact ⟨L, e4, rfl, rfl, rfl⟩)
  obtain ⟨v, _, ⟨T18, L18, k18, n18⟩, -, X18, hS, -, ⟨Lc, hq, l18, y18, z18⟩, st⟩ := callSS X hx hown (mvT hZ w1) (mvT hZ w2) (mvT hZ w3) (mvT hZ w4) hy B hg hsize hlen hstack hW hd (fun _ _ => ⟨rfl, eT, hc, hs⟩)
  dsimp only [Pt.U, Pt.locs, Pt.cells, Pt.slots] at X18 l18 y18 z18 st hq hS
  subst l18 y18 z18
  exact ⟨v, T18, _, Lc, X18, rfl, hS, State.Warmed39.trans (t := s) hZ hS.1, by rw [show (s.setVm T18.vm).vm = T18.vm from rfl, hS.1.alike.findClass]; exact hown, hq, fun _ k => st.trans k⟩
/-- a String constant: place j of its bytes -/
def strF (text : String) : Nat → Int32 := fun j => (text.toList.map fun c => Jvm.Lit.byteI c.toNat.toUInt16).getD j 0
theorem ldcI {vm0 : Vm} {own text : String} {index k0 : Nat} {Ts : List String} (X : Stand p l e R (s.setVm vm0) m args below meth c T locs cells slots) (hx : p.tables.exec = Jvm.exec) (hZ : Z.Warmed39 vm0) (hown : vm0.findClass own = some m.cls) (w : (Cond.stringLink own index text).before a0 Z = true) (wS : ∀ a ∈ Bundle.stringAtoms, a.before a0 Z = true)
    (eT : T.heap = h) (hS : s.Since vm0 k0) (hk : k0 ≤ h.size) (N : Fr s.heap.size locs) (hkeep : ∀ (b : Addr) (cl : Cell), Z.heap[b]? = some cl → s.heap[b]? = some cl) (I : IB Z vm0 Ts) (hnot : text ∉ Ts) (hh : Jvm.Lit.constHeld Z own index) (hcw : Jvm.Lit.compactW.before a0 Z = true)
    (ht : ∀ c ∈ text.toList, c.toNat < 256) (hlen : text.toList.length = n) (hN : n < 2 ^ 31)
    {g : JFrame} (hg : g.method = m) (hd : decode c.code g.pc = .ok (.ldc index, 2)) {q : Nat} (hn : 4 * text.toList.length ≤ q) (hbig : q ≤ 536870912) (hc : cells + 2 ≤ R.cells) (hl' : slots + (q + 4) ≤ R.slots) :
    ∃ (a : Addr) (T' : State) (h' : Heap) (k1 : Nat) (b : Addr), Stand p l e R (s.setVm T'.vm) m args below meth c T' locs (cells + 2) (slots + (q + 4)) ∧ T'.heap = h' ∧ Ext h h' ∧ s.Since T'.vm k1 ∧ k1 ≤ h'.size ∧ Z.Warmed39 (s.setVm T'.vm).vm ∧ (s.setVm T'.vm).vm.findClass own = some m.cls ∧
      Exa Z h' a "java/lang/String" ∧ Fld Z h' a "java/lang/String" "coder" "B" (.int 0) ∧ Fld Z h' a "java/lang/String" "value" "[B" (.ref b) ∧ Ari Z h' b .byte n (strF text) ∧ IB Z T'.vm (text :: Ts) ∧ Lit (s.setVm T'.vm) own index a ∧
      ∀ target, Steps p.tables e below (T'.setTop { g with pc := g.pc + 2, stack := .ref a :: g.stack }) target → Steps p.tables e below (T.setTop g) target := by
  have ez : (Int32.ofNat n).toInt = n := Int32.toInt_ofNat_of_lt hN
  have h0 : ¬ Int32.ofNat n < 0 := by rw [Int32.lt_iff_toInt_lt, ez]; have : (0 : Int32).toInt = 0 := rfl; omega
  have hk' : (Int32.ofNat n).toNatClampNeg = n := by have := nat_of h0; omega
  obtain ⟨a, T', h', k1, b, k, r1, r2, r3, r4, r5, r6, r7, r8, r9, r10, r11, r12, r13, r14, r15, r16⟩ := ldcSVL X hx hZ hown w wS eT hS hk N hkeep I hnot hh hcw (z := Int32.ofNat n) ⟨ht, rfl⟩ h0 (by rw [hk']; simp [hlen]) hg hd hn hbig hc hl'
  refine ⟨a, T', h', k1, b, r1, r2, r3, r4, r5, r6, r7, r8, r9, r10, Ari.of_arv r11 hN fun j hj => ?_, r14, r15, r16⟩
  have hj' : j < text.toList.length := by omega
  simp [strF, List.getD_eq_getElem?_getD, hj']
end OwnStr
end Jvm.RoadKit
namespace Jvm.Pilot.@@N@@
open Jvm Jvm.ClassFile Sem Op Lib Jvm.Free Jvm.Stand Jvm.LawKit Jvm.RoadKit Bundle Jvm.Pilot.@@N@@.Jvm.D
theorem d21_0 : decode jdk_43_method_3_code 0 = .ok (.iload_n 0, 1) := by decide +kernel
theorem d21_1 : decode jdk_43_method_3_code 1 = .ok (.sipush 255, 3) := by decide +kernel
theorem d21_4 : decode jdk_43_method_3_code 4 = .ok (.if_icmp .gt 7, 3) := by decide +kernel
theorem d21_7 : decode jdk_43_method_3_code 7 = .ok (.iconst 1, 1) := by decide +kernel
theorem d21_8 : decode jdk_43_method_3_code 8 = .ok (.goto 4, 3) := by decide +kernel
theorem d21_11 : decode jdk_43_method_3_code 11 = .ok (.iconst 0, 1) := by decide +kernel
theorem d21_12 : decode jdk_43_method_3_code 12 = .ok (.ireturn, 1) := by decide +kernel
theorem pn_21 : plainName "java/lang/StringLatin1" = true := by first | (simp [plainName, overriddenIn]; done) | decide +kernel
theorem ef_21 (m : MethodId) (p1 : Int32) : entryFrame m #[(.int p1)] 1 = mkF m 0 #[.val (.int p1)] [] := by first | (simp [entryFrame, mkF, argsToLocals, Value.category]; done) | rfl
def f21 (p1 : Int32) : Int32 := (if ((255 : Int32) < p1) then (0 : Int32) else (1 : Int32))
set_option maxRecDepth 65536 in
set_option maxHeartbeats 40000000 in
theorem rm21 (l : Launch) (Z : State) (a0 : Array Value) (hw : ∀ d ∈ tables_1, d.before a0 Z = true) (ws : List Jvm.Cond) (p1 : Int32) (h0 : Heap)  :
    MetFree l (⟨"java/lang/StringLatin1", "canEncode", "(C)Z"⟩ : MethodName) (head1 (Jvm.Cond.code (⟨"java/lang/StringLatin1", "canEncode", "(C)Z"⟩ : MethodName) jdk_43_method_3_code 1 (some .boolean) :: ws) ({ frames := 0, cells := 0, slots := 0, locals := 0 } : Room)) (fun a U => a = #[(.int p1)] ∧ Z.Warmed39 U.vm ∧ U.heap = h0) (fun _ _ _ _ _ => True) (fun _ U o U' => ∃ v L, o = .returned v ∧ PI h0 (f21 p1) v U'.heap L ∧ FrameEnd U o U' L ({ frames := 0, cells := 0, slots := 0, locals := 0 } : Room).cells ({ frames := 0, cells := 0, slots := 0, locals := 0 } : Room).slots) := by
  refine MetFree.of_bodySF (plainFor_of_name pn_21) hisR ?_
  intro p e s m args below meth c s₁ Bd hml0 hP hK
  obtain ⟨rfl, hZ, hh⟩ := hP
  have hx := Bd.exec
  have hby := Bd.bytes
  have hlk := Bd.notSynchronized
  have hml : c.maxLocals = 1 := hml0
  have hown : s.vm.findClass "java/lang/StringLatin1" = some m.cls := findClass_of_methodNamed Bd.named
  have X0 : Stand p l e ({ frames := 0, cells := 0, slots := 0, locals := 0 } : Room) s m #[(.int p1)] below meth c s₁ [] 0 0 := Stand.of_body Bd
  have e0 : s₁.heap = h0 := by rw [← hh, Bd.state]; rfl
  show Goes p e below s ({ frames := 0, cells := 0, slots := 0, locals := 0 } : Room).cells ({ frames := 0, cells := 0, slots := 0, locals := 0 } : Room).slots (PI h0 (f21 p1)) s₁ (entryFrame m #[(.int p1)] 1)
  refine Goes.step (fun t k => castTop (ef_21 m p1) k) ?_
  refine Goes.step (fun _ k => XS.iloadN X0.here hx rfl (hb hby d21_0) rfl k) ?_
  show Goes p e below s _ _ _ s₁ (mkF m 1 #[.val (.int p1)] [(.int p1)])
  refine Goes.step (fun _ k => XS.sipush X0.here hx rfl (hb hby d21_1) k) ?_
  show Goes p e below s _ _ _ s₁ (mkF m 4 #[.val (.int p1)] [(.int (255 : Int32)), (.int p1)])
  refine Goes.ite (Q := PI h0) (fun hc4 => ?_) (fun hc4 => ?_)
  · refine Goes.step (fun _ k => XS.icmpYes X0.here hx rfl (pc0 := 4) (pc' := 11) rfl (hb hby d21_4) rfl (tlt hc4).2.2.1 (by decide) (by decide) k) ?_
    show Goes p e below s _ _ _ s₁ (mkF m 11 #[.val (.int p1)] [])
    refine Goes.step (fun _ k => XS.iconst X0.here hx rfl (hb hby d21_11) k) ?_
    show Goes p e below s _ _ _ s₁ (mkF m 12 #[.val (.int p1)] [(.int (0 : Int32))])
    exact Goes.outN X0 hx hlk (t := .boolean) Bd.returns (by simp) (hb hby d21_12) ⟨rfl, rfl, e0⟩ (by decide) (by decide)
  · refine Goes.step (fun _ k => XS.icmpNo X0.here hx rfl (hb hby d21_4) rfl (flt hc4).2.2.1 k) ?_
    show Goes p e below s _ _ _ s₁ (mkF m 7 #[.val (.int p1)] [])
    refine Goes.step (fun _ k => XS.iconst X0.here hx rfl (hb hby d21_7) k) ?_
    show Goes p e below s _ _ _ s₁ (mkF m 8 #[.val (.int p1)] [(.int (1 : Int32))])
    refine Goes.step (fun _ k => XS.goto X0.here hx rfl (pc0 := 8) (pc' := 12) rfl (hb hby d21_8) (by decide) (by decide) k) ?_
    show Goes p e below s _ _ _ s₁ (mkF m 12 #[.val (.int p1)] [(.int (1 : Int32))])
    exact Goes.outN X0 hx hlk (t := .boolean) Bd.returns (by simp) (hb hby d21_12) ⟨rfl, rfl, e0⟩ (by decide) (by decide)
theorem d29_0 : decode method_2_code 0 = .ok (.iload_n 0, 1) := by decide +kernel
theorem d29_1 : decode method_2_code 1 = .ok (.bipush 48, 2) := by decide +kernel
theorem d29_3 : decode method_2_code 3 = .ok (.if_icmp .lt 14, 3) := by decide +kernel
theorem d29_6 : decode method_2_code 6 = .ok (.iload_n 0, 1) := by decide +kernel
theorem d29_7 : decode method_2_code 7 = .ok (.bipush 57, 2) := by decide +kernel
theorem d29_9 : decode method_2_code 9 = .ok (.if_icmp .gt 8, 3) := by decide +kernel
theorem d29_12 : decode method_2_code 12 = .ok (.iload_n 0, 1) := by decide +kernel
theorem d29_13 : decode method_2_code 13 = .ok (.bipush 48, 2) := by decide +kernel
theorem d29_15 : decode method_2_code 15 = .ok (.isub, 1) := by decide +kernel
theorem d29_16 : decode method_2_code 16 = .ok (.ireturn, 1) := by decide +kernel
theorem d29_17 : decode method_2_code 17 = .ok (.iload_n 0, 1) := by decide +kernel
theorem d29_18 : decode method_2_code 18 = .ok (.bipush 97, 2) := by decide +kernel
theorem d29_20 : decode method_2_code 20 = .ok (.if_icmp .lt 17, 3) := by decide +kernel
theorem d29_23 : decode method_2_code 23 = .ok (.iload_n 0, 1) := by decide +kernel
theorem d29_24 : decode method_2_code 24 = .ok (.bipush 102, 2) := by decide +kernel
theorem d29_26 : decode method_2_code 26 = .ok (.if_icmp .gt 11, 3) := by decide +kernel
theorem d29_29 : decode method_2_code 29 = .ok (.iload_n 0, 1) := by decide +kernel
theorem d29_30 : decode method_2_code 30 = .ok (.bipush 97, 2) := by decide +kernel
theorem d29_32 : decode method_2_code 32 = .ok (.isub, 1) := by decide +kernel
theorem d29_33 : decode method_2_code 33 = .ok (.bipush 10, 2) := by decide +kernel
theorem d29_35 : decode method_2_code 35 = .ok (.iadd, 1) := by decide +kernel
theorem d29_36 : decode method_2_code 36 = .ok (.ireturn, 1) := by decide +kernel
theorem d29_37 : decode method_2_code 37 = .ok (.iconst (-1), 1) := by decide +kernel
theorem d29_38 : decode method_2_code 38 = .ok (.ireturn, 1) := by decide +kernel
theorem pn_29 : plainName "com/example/cartouche/cartouche/ControlCharactersUnicodeEscapePinLaw" = true := by first | (simp [plainName, overriddenIn]; done) | decide +kernel
theorem ef_29 (m : MethodId) (p1 : Int32) : entryFrame m #[(.int p1)] 1 = mkF m 0 #[.val (.int p1)] [] := by first | (simp [entryFrame, mkF, argsToLocals, Value.category]; done) | rfl
def f29_37 (p1 : Int32) : Int32 := (-1 : Int32)
def f29_17 (p1 : Int32) : Int32 := (if (p1 < (97 : Int32)) then (f29_37 p1) else (if ((102 : Int32) < p1) then (f29_37 p1) else ((p1 - (97 : Int32)) + (10 : Int32))))
def f29 (p1 : Int32) : Int32 := (if (p1 < (48 : Int32)) then (f29_17 p1) else (if ((57 : Int32) < p1) then (f29_17 p1) else (p1 - (48 : Int32))))
set_option maxRecDepth 65536 in
set_option maxHeartbeats 40000000 in
theorem rm29 (l : Launch) (Z : State) (a0 : Array Value) (hw : ∀ d ∈ tables_1, d.before a0 Z = true) (ws : List Jvm.Cond) (p1 : Int32) (h0 : Heap)  :
    MetFree l (⟨"com/example/cartouche/cartouche/ControlCharactersUnicodeEscapePinLaw", "hexVal", "(C)I"⟩ : MethodName) (head1 (Jvm.Cond.code (⟨"com/example/cartouche/cartouche/ControlCharactersUnicodeEscapePinLaw", "hexVal", "(C)I"⟩ : MethodName) method_2_code 1 (some .int) :: ws) ({ frames := 0, cells := 0, slots := 0, locals := 0 } : Room)) (fun a U => a = #[(.int p1)] ∧ Z.Warmed39 U.vm ∧ U.heap = h0) (fun _ _ _ _ _ => True) (fun _ U o U' => ∃ v L, o = .returned v ∧ PI h0 (f29 p1) v U'.heap L ∧ FrameEnd U o U' L ({ frames := 0, cells := 0, slots := 0, locals := 0 } : Room).cells ({ frames := 0, cells := 0, slots := 0, locals := 0 } : Room).slots) := by
  refine MetFree.of_bodySF (plainFor_of_name pn_29) hisR ?_
  intro p e s m args below meth c s₁ Bd hml0 hP hK
  obtain ⟨rfl, hZ, hh⟩ := hP
  have hx := Bd.exec
  have hby := Bd.bytes
  have hlk := Bd.notSynchronized
  have hml : c.maxLocals = 1 := hml0
  have hown : s.vm.findClass "com/example/cartouche/cartouche/ControlCharactersUnicodeEscapePinLaw" = some m.cls := findClass_of_methodNamed Bd.named
  have X0 : Stand p l e ({ frames := 0, cells := 0, slots := 0, locals := 0 } : Room) s m #[(.int p1)] below meth c s₁ [] 0 0 := Stand.of_body Bd
  have e0 : s₁.heap = h0 := by rw [← hh, Bd.state]; rfl
  have B37 : ∀ (T : State), Stand p l e ({ frames := 0, cells := 0, slots := 0, locals := 0 } : Room) s m #[(.int p1)] below meth c T [] 0 0 → T.heap = h0 → ∀ (_ : True), Goes p e below s ({ frames := 0, cells := 0, slots := 0, locals := 0 } : Room).cells ({ frames := 0, cells := 0, slots := 0, locals := 0 } : Room).slots (PI h0 (f29_37 p1)) T (mkF m 37 #[.val (.int p1)] []) := by
    intro T X eT _
    refine Goes.step (fun _ k => XS.iconst X.here hx rfl (hb hby d29_37) k) ?_
    show Goes p e below s _ _ _ T (mkF m 38 #[.val (.int p1)] [(.int (-1 : Int32))])
    exact Goes.outI X hx hlk Bd.returns (hb hby d29_38) ⟨rfl, rfl, eT⟩ (by decide) (by decide)
  have B17 : ∀ (T : State), Stand p l e ({ frames := 0, cells := 0, slots := 0, locals := 0 } : Room) s m #[(.int p1)] below meth c T [] 0 0 → T.heap = h0 → ∀ (_ : True), Goes p e below s ({ frames := 0, cells := 0, slots := 0, locals := 0 } : Room).cells ({ frames := 0, cells := 0, slots := 0, locals := 0 } : Room).slots (PI h0 (f29_17 p1)) T (mkF m 17 #[.val (.int p1)] []) := by
    intro T X eT _
    refine Goes.step (fun _ k => XS.iloadN X.here hx rfl (hb hby d29_17) rfl k) ?_
    show Goes p e below s _ _ _ T (mkF m 18 #[.val (.int p1)] [(.int p1)])
    refine Goes.step (fun _ k => XS.bipush X.here hx rfl (hb hby d29_18) k) ?_
    show Goes p e below s _ _ _ T (mkF m 20 #[.val (.int p1)] [(.int (97 : Int32)), (.int p1)])
    refine Goes.ite (Q := PI h0) (fun hc20 => ?_) (fun hc20 => ?_)
    · refine Goes.step (fun _ k => XS.icmpYes X.here hx rfl (pc0 := 20) (pc' := 37) rfl (hb hby d29_20) rfl (tlt hc20).1 (by decide) (by decide) k) ?_
      show Goes p e below s _ _ _ T (mkF m 37 #[.val (.int p1)] [])
      exact B37 T X eT trivial
    · refine Goes.step (fun _ k => XS.icmpNo X.here hx rfl (hb hby d29_20) rfl (flt hc20).1 k) ?_
      show Goes p e below s _ _ _ T (mkF m 23 #[.val (.int p1)] [])
      refine Goes.step (fun _ k => XS.iloadN X.here hx rfl (hb hby d29_23) rfl k) ?_
      show Goes p e below s _ _ _ T (mkF m 24 #[.val (.int p1)] [(.int p1)])
      refine Goes.step (fun _ k => XS.bipush X.here hx rfl (hb hby d29_24) k) ?_
      show Goes p e below s _ _ _ T (mkF m 26 #[.val (.int p1)] [(.int (102 : Int32)), (.int p1)])
      refine Goes.ite (Q := PI h0) (fun hc26 => ?_) (fun hc26 => ?_)
      · refine Goes.step (fun _ k => XS.icmpYes X.here hx rfl (pc0 := 26) (pc' := 37) rfl (hb hby d29_26) rfl (tlt hc26).2.2.1 (by decide) (by decide) k) ?_
        show Goes p e below s _ _ _ T (mkF m 37 #[.val (.int p1)] [])
        exact B37 T X eT trivial
      · refine Goes.step (fun _ k => XS.icmpNo X.here hx rfl (hb hby d29_26) rfl (flt hc26).2.2.1 k) ?_
        show Goes p e below s _ _ _ T (mkF m 29 #[.val (.int p1)] [])
        refine Goes.step (fun _ k => XS.iloadN X.here hx rfl (hb hby d29_29) rfl k) ?_
        show Goes p e below s _ _ _ T (mkF m 30 #[.val (.int p1)] [(.int p1)])
        refine Goes.step (fun _ k => XS.bipush X.here hx rfl (hb hby d29_30) k) ?_
        show Goes p e below s _ _ _ T (mkF m 32 #[.val (.int p1)] [(.int (97 : Int32)), (.int p1)])
        refine Goes.step (fun _ k => XS.isub X.here hx rfl (hb hby d29_32) rfl k) ?_
        show Goes p e below s _ _ _ T (mkF m 33 #[.val (.int p1)] [(.int (p1 - (97 : Int32)))])
        refine Goes.step (fun _ k => XS.bipush X.here hx rfl (hb hby d29_33) k) ?_
        show Goes p e below s _ _ _ T (mkF m 35 #[.val (.int p1)] [(.int (10 : Int32)), (.int (p1 - (97 : Int32)))])
        refine Goes.step (fun _ k => XS.iadd X.here hx rfl (hb hby d29_35) rfl k) ?_
        show Goes p e below s _ _ _ T (mkF m 36 #[.val (.int p1)] [(.int ((p1 - (97 : Int32)) + (10 : Int32)))])
        exact Goes.outI X hx hlk Bd.returns (hb hby d29_36) ⟨rfl, rfl, eT⟩ (by decide) (by decide)
  show Goes p e below s ({ frames := 0, cells := 0, slots := 0, locals := 0 } : Room).cells ({ frames := 0, cells := 0, slots := 0, locals := 0 } : Room).slots (PI h0 (f29 p1)) s₁ (entryFrame m #[(.int p1)] 1)
  refine Goes.step (fun t k => castTop (ef_29 m p1) k) ?_
  refine Goes.step (fun _ k => XS.iloadN X0.here hx rfl (hb hby d29_0) rfl k) ?_
  show Goes p e below s _ _ _ s₁ (mkF m 1 #[.val (.int p1)] [(.int p1)])
  refine Goes.step (fun _ k => XS.bipush X0.here hx rfl (hb hby d29_1) k) ?_
  show Goes p e below s _ _ _ s₁ (mkF m 3 #[.val (.int p1)] [(.int (48 : Int32)), (.int p1)])
  refine Goes.ite (Q := PI h0) (fun hc3 => ?_) (fun hc3 => ?_)
  · refine Goes.step (fun _ k => XS.icmpYes X0.here hx rfl (pc0 := 3) (pc' := 17) rfl (hb hby d29_3) rfl (tlt hc3).1 (by decide) (by decide) k) ?_
    show Goes p e below s _ _ _ s₁ (mkF m 17 #[.val (.int p1)] [])
    exact B17 s₁ X0 e0 trivial
  · refine Goes.step (fun _ k => XS.icmpNo X0.here hx rfl (hb hby d29_3) rfl (flt hc3).1 k) ?_
    show Goes p e below s _ _ _ s₁ (mkF m 6 #[.val (.int p1)] [])
    refine Goes.step (fun _ k => XS.iloadN X0.here hx rfl (hb hby d29_6) rfl k) ?_
    show Goes p e below s _ _ _ s₁ (mkF m 7 #[.val (.int p1)] [(.int p1)])
    refine Goes.step (fun _ k => XS.bipush X0.here hx rfl (hb hby d29_7) k) ?_
    show Goes p e below s _ _ _ s₁ (mkF m 9 #[.val (.int p1)] [(.int (57 : Int32)), (.int p1)])
    refine Goes.ite (Q := PI h0) (fun hc9 => ?_) (fun hc9 => ?_)
    · refine Goes.step (fun _ k => XS.icmpYes X0.here hx rfl (pc0 := 9) (pc' := 17) rfl (hb hby d29_9) rfl (tlt hc9).2.2.1 (by decide) (by decide) k) ?_
      show Goes p e below s _ _ _ s₁ (mkF m 17 #[.val (.int p1)] [])
      exact B17 s₁ X0 e0 trivial
    · refine Goes.step (fun _ k => XS.icmpNo X0.here hx rfl (hb hby d29_9) rfl (flt hc9).2.2.1 k) ?_
      show Goes p e below s _ _ _ s₁ (mkF m 12 #[.val (.int p1)] [])
      refine Goes.step (fun _ k => XS.iloadN X0.here hx rfl (hb hby d29_12) rfl k) ?_
      show Goes p e below s _ _ _ s₁ (mkF m 13 #[.val (.int p1)] [(.int p1)])
      refine Goes.step (fun _ k => XS.bipush X0.here hx rfl (hb hby d29_13) k) ?_
      show Goes p e below s _ _ _ s₁ (mkF m 15 #[.val (.int p1)] [(.int (48 : Int32)), (.int p1)])
      refine Goes.step (fun _ k => XS.isub X0.here hx rfl (hb hby d29_15) rfl k) ?_
      show Goes p e below s _ _ _ s₁ (mkF m 16 #[.val (.int p1)] [(.int (p1 - (48 : Int32)))])
      exact Goes.outI X0 hx hlk Bd.returns (hb hby d29_16) ⟨rfl, rfl, e0⟩ (by decide) (by decide)
theorem Ari.neLen {Z : State} {h : Heap} {a b : Addr} {t1 t2 : FieldType} {n1 n2 : Nat} {f1 f2 : Nat → Int32} (A : Ari Z h a t1 n1 f1) (B : Ari Z h b t2 n2 f2) (q : n1 ≠ n2) : a ≠ b := fun e => by
  subst e
  obtain ⟨c1, A1, s1, -⟩ := A
  obtain ⟨c2, A2, s2, -⟩ := B
  cases A1.1.symm.trans A2.1
  exact q (s1.symm.trans s2)
theorem Ari.neExa {Z : State} {a0 : Array Value} {h : Heap} {a x : Addr} {t1 : FieldType} {n1 ki : Nat} {f1 : Nat → Int32} {C : String} (A : Ari Z h a t1 n1 f1) (E : Exa Z h x C) (w : (Cond.instantiable C ki).before a0 Z = true) : a ≠ x := by
  obtain ⟨k, V⟩ := A.arv
  exact Ne.symm (E.neArv V w)
/-- the sixteen digits -/
def own_dig (i : Nat) : Int32 := if i < 10 then Int32.ofNat (48 + i) else Int32.ofNat (87 + i)
theorem own_digs : ∀ j, j < 16 → strF "0123456789abcdef" j = own_dig j := by decide
/-- String.charAt's answer for the byte x -/
def own_c1 (x : Int32) : Int32 := nar .char ((x &&& (255 : Int32)).toUInt32.toUInt16.toUInt32.toInt32)
def own_ch (x : Int32) : Int32 := nar .char (own_c1 x)
/-- the digit that is appended, as a byte -/
def own_by (i : Nat) : Int32 := ((own_ch (own_dig i)).toInt8.toInt32).toInt8.toInt32
def own_bs : Nat → Int32 := fun j => if j = 0 then 92 else 117
theorem own_bsu : ∀ j, j < 2 → strF "\\u" j = own_bs j := by decide
def own_esc (n : Nat) : Nat → Int32 := updI (updI (updI (updI (blit own_bs (fun _ => 0) 0 0 2) 2 (own_by (n / 4096))) 3 (own_by (n / 256 % 16))) 4 (own_by (n / 16 % 16))) 5 (own_by (n % 16))
theorem own_hx : ∀ i, i < 16 → f29 (own_ch (own_by i)) = Int32.ofNat i := by decide
theorem own_enc : ∀ i, i < 16 → ¬ (f21 (own_ch (own_dig i)) = (0 : Int32)) := by decide
theorem own_cap : ∀ k, k < 6 → ¬ ((0 : Int32) < (Int32.ofNat k + (1 : Int32)) - Int32.ofNat 6) := by decide
theorem own_succ (k : Nat) : Int32.ofNat k + (1 : Int32) = Int32.ofNat (k + 1) := (Int32.ofNat_add k 1).symm
theorem own_ofNat {x : Int32} {k : Nat} (hk : k < 2 ^ 31) (e : x.toInt = k) : x = Int32.ofNat k := Int32.toInt_inj.mp (by rw [Int32.toInt_ofNat_of_lt hk]; exact e)
theorem own_cc (p : Int32) : ∃ n : Nat, n < 65536 ∧ (p &&& (65535 : Int32)).toUInt32.toUInt16.toUInt32.toInt32 = Int32.ofNat n := by
  obtain ⟨q1, q2, q3⟩ := c_i2c (p &&& (65535 : Int32))
  generalize (p &&& (65535 : Int32)).toUInt32.toUInt16.toUInt32.toInt32 = c at *
  exact ⟨c.toInt.toNat, by omega, own_ofNat (by omega) (by omega)⟩
theorem own_i0 {p : Int32} {n : Nat} (hp : p = Int32.ofNat n) (hn : n < 65536) : p >>> ((12 : Int32) &&& 31) = Int32.ofNat (n / 4096) := by
  have e : p.toInt = n := by rw [hp]; exact Int32.toInt_ofNat_of_lt (by omega)
  have q := c_ishr p 12 12 (by decide)
  simp only [Nat.reducePow] at q
  exact own_ofNat (by omega) (by omega)
theorem own_m {x : Int32} {n : Nat} (e : x.toInt = n) : x &&& (15 : Int32) = Int32.ofNat (n % 16) := by
  have q := c_mask x 15 4 (by decide) (by decide)
  simp only [Nat.reducePow] at q
  exact own_ofNat (by omega) (by omega)
theorem own_i1 {p : Int32} {n : Nat} (hp : p = Int32.ofNat n) (hn : n < 65536) : p >>> ((8 : Int32) &&& 31) &&& (15 : Int32) = Int32.ofNat (n / 256 % 16) := by
  have e : p.toInt = n := by rw [hp]; exact Int32.toInt_ofNat_of_lt (by omega)
  have q := c_ishr p 8 8 (by decide)
  simp only [Nat.reducePow] at q
  exact own_m (by omega)
theorem own_i2 {p : Int32} {n : Nat} (hp : p = Int32.ofNat n) (hn : n < 65536) : p >>> ((4 : Int32) &&& 31) &&& (15 : Int32) = Int32.ofNat (n / 16 % 16) := by
  have e : p.toInt = n := by rw [hp]; exact Int32.toInt_ofNat_of_lt (by omega)
  have q := c_ishr p 4 4 (by decide)
  simp only [Nat.reducePow] at q
  exact own_m (by omega)
theorem own_i3 {p : Int32} {n : Nat} (hp : p = Int32.ofNat n) (hn : n < 65536) : p &&& (15 : Int32) = Int32.ofNat (n % 16) := by
  have e : p.toInt = n := by rw [hp]; exact Int32.toInt_ofNat_of_lt (by omega)
  exact own_m e
theorem own_e0 (n : Nat) : own_ch (own_esc n 0) = (92 : Int32) := by show own_ch (own_bs 0) = (92 : Int32); decide
theorem own_e1 (n : Nat) : own_ch (own_esc n 1) = (117 : Int32) := by show own_ch (own_bs 1) = (117 : Int32); decide
theorem own_d2 (n : Nat) (hn : n < 65536) : f29 (own_ch (own_esc n 2)) = Int32.ofNat (n / 4096) := own_hx _ (by omega)
theorem own_d3 (n : Nat) (hn : n < 65536) : f29 (own_ch (own_esc n 3)) = Int32.ofNat (n / 256 % 16) := own_hx _ (by omega)
theorem own_d4 (n : Nat) (hn : n < 65536) : f29 (own_ch (own_esc n 4)) = Int32.ofNat (n / 16 % 16) := own_hx _ (by omega)
theorem own_d5 (n : Nat) (hn : n < 65536) : f29 (own_ch (own_esc n 5)) = Int32.ofNat (n % 16) := own_hx _ (by omega)
theorem own_nn {k : Nat} (hk : k < 65536) : ¬ (Int32.ofNat k < (0 : Int32)) := by
  rw [Int32.lt_iff_toInt_lt, Int32.toInt_ofNat_of_lt (by omega)]
  have : (0 : Int32).toInt = 0 := rfl
  omega
theorem own_sum {p : Int32} {n : Nat} (hp : p = Int32.ofNat n) (hn : n < 65536) : (((Int32.ofNat (n / 4096)) * (4096 : Int32)) + ((Int32.ofNat (n / 256 % 16)) * (256 : Int32)) + ((Int32.ofNat (n / 16 % 16)) * (16 : Int32)) + (Int32.ofNat (n % 16))) = p := by
  rw [hp]
  apply Int32.toInt_inj.mp
  have r := rng32 (((Int32.ofNat (n / 4096)) * (4096 : Int32)) + ((Int32.ofNat (n / 256 % 16)) * (256 : Int32)) + ((Int32.ofNat (n / 16 % 16)) * (16 : Int32)) + (Int32.ofNat (n % 16)))
  have a1 := c_iadd (((Int32.ofNat (n / 4096)) * (4096 : Int32)) + ((Int32.ofNat (n / 256 % 16)) * (256 : Int32)) + ((Int32.ofNat (n / 16 % 16)) * (16 : Int32))) (Int32.ofNat (n % 16))
  have a2 := c_iadd (((Int32.ofNat (n / 4096)) * (4096 : Int32)) + ((Int32.ofNat (n / 256 % 16)) * (256 : Int32))) ((Int32.ofNat (n / 16 % 16)) * (16 : Int32))
  have a3 := c_iadd ((Int32.ofNat (n / 4096)) * (4096 : Int32)) ((Int32.ofNat (n / 256 % 16)) * (256 : Int32))
  have b1 := c_imul (Int32.ofNat (n / 4096)) 4096
  have b2 := c_imul (Int32.ofNat (n / 256 % 16)) 256
  have b3 := c_imul (Int32.ofNat (n / 16 % 16)) 16
  rw [show (4096 : Int32).toInt = 4096 from rfl, Int32.toInt_ofNat_of_lt (by omega)] at b1
  rw [show (256 : Int32).toInt = 256 from rfl, Int32.toInt_ofNat_of_lt (by omega)] at b2
  rw [show (16 : Int32).toInt = 16 from rfl, Int32.toInt_ofNat_of_lt (by omega)] at b3
  rw [Int32.toInt_ofNat_of_lt (show n % 16 < 2 ^ 31 by omega)] at a1
  rw [Int32.toInt_ofNat_of_lt (show n < 2 ^ 31 by omega)]
  generalize Int32.ofNat (n / 4096) * (4096 : Int32) = x1 at *
  generalize Int32.ofNat (n / 256 % 16) * (256 : Int32) = x2 at *
  generalize Int32.ofNat (n / 16 % 16) * (16 : Int32) = x3 at *
  generalize x1 + x2 = y1 at *
  generalize y1 + x3 = y2 at *
  omega
theorem own_capS {x y : Int32} (h : ¬ ((0 : Int32) < x - y)) : ¬ ((0 : Int32) < x - (y >>> ((0 : Int32) &&& 31))) := by rw [own_shr0]; exact h
theorem own_ix0 {Z : State} {h : Heap} {a : Addr} {ty : FieldType} {n i : Nat} {f : Nat → Int32} {p : Int32} (A : Ari Z h a ty n f) (hi : p = Int32.ofNat i) (hin : i < n) : ¬ (p < (0 : Int32)) := by
  obtain ⟨_, _, _, q, _⟩ := A
  rw [hi, Int32.lt_iff_toInt_lt, Int32.toInt_ofNat_of_lt (by omega)]
  have : (0 : Int32).toInt = 0 := rfl
  omega
theorem own_ix1 {Z : State} {h : Heap} {a : Addr} {ty : FieldType} {n i : Nat} {f : Nat → Int32} {p : Int32} (A : Ari Z h a ty n f) (hi : p = Int32.ofNat i) (hin : i < n) : p < Int32.ofNat n := by
  obtain ⟨_, _, _, q, _⟩ := A
  rw [hi, Int32.lt_iff_toInt_lt, Int32.toInt_ofNat_of_lt (by omega), Int32.toInt_ofNat_of_lt q]
  omega
theorem own_isref {t : Term} {args : Array Value} {first s : State} {o : Option Outcome} {idx : List Nat} (h : (Cond.isRef t).value args first o s idx = some true) : ∃ oF : Option Addr, t.eval args first o idx s = some (ov oF) := by
  obtain ⟨x, e, r⟩ := isR_v h
  rcases ref_cases r with rfl | ⟨a, rfl⟩
  · exact ⟨none, e⟩
  · exact ⟨some a, e⟩
theorem d8_0 : decode jdk_42_method_152_code 0 = .ok (.getstatic 38, 3) := by decide +kernel
theorem d8_3 : decode jdk_42_method_152_code 3 = .ok (.ifCond .eq 10, 3) := by decide +kernel
theorem d8_6 : decode jdk_42_method_152_code 6 = .ok (.aload_n 0, 1) := by decide +kernel
theorem d8_7 : decode jdk_42_method_152_code 7 = .ok (.getfield 15, 3) := by decide +kernel
theorem d8_10 : decode jdk_42_method_152_code 10 = .ok (.goto 4, 3) := by decide +kernel
theorem d8_14 : decode jdk_42_method_152_code 14 = .ok (.ireturn, 1) := by decide +kernel
theorem pn_8 : plainName "java/lang/String" = true := by first | (simp [plainName, overriddenIn]; done) | decide +kernel
theorem ef_8 (m : MethodId) (a1 : Addr) : entryFrame m #[(.ref a1)] 1 = mkF m 0 #[.val (.ref a1)] [] := by first | (simp [entryFrame, mkF, argsToLocals, Value.category]; done) | rfl
def Q8 (Z : State) (a1 : Addr) (G1 : Int32) (h0 : Heap) (n0 : Nat) (v : Option Value) (h : Heap) (L : List Loc) : Prop := PQ h0 (some (.int (0 : Int32))) v h L
set_option maxRecDepth 65536 in
set_option maxHeartbeats 40000000 in
theorem rm8 (l : Launch) (Z : State) (a0 : Array Value) (hw : ∀ d ∈ tables_1, d.before a0 Z = true) (ws : List Jvm.Cond) (a1 : Addr) (G1 : Int32) (h0 : Heap) (n0 : Nat) (Z0 : n0 ≤ h0.size) (O2 : Sta Z Z.heap "java/lang/String" "COMPACT_STRINGS" "Z" (.int G1)) (P3 : ¬ (G1 = (0 : Int32))) (OL : Old Z n0 h0) (F_a1_coder_0 : Fld Z h0 a1 "java/lang/String" "coder" "B" (.int (0 : Int32))) :
    MetFree l (⟨"java/lang/String", "coder", "()B"⟩ : MethodName) (head1 (Jvm.Cond.code (⟨"java/lang/String", "coder", "()B"⟩ : MethodName) jdk_42_method_152_code 1 (some .byte) :: ws) ({ frames := 0, cells := 0, slots := 0, locals := 0 } : Room)) (fun a U => a = #[(.ref a1)] ∧ Z.Warmed39 U.vm ∧ U.heap = h0) (fun _ _ _ _ _ => True) (fun _ U o U' => ∃ v L, o = .returned v ∧ Q8 Z a1 G1 h0 n0 v U'.heap L ∧ FrameEnd U o U' L ({ frames := 0, cells := 0, slots := 0, locals := 0 } : Room).cells ({ frames := 0, cells := 0, slots := 0, locals := 0 } : Room).slots) := by
  refine MetFree.of_bodySF (plainFor_of_name pn_8) hisR ?_
  intro p e s m args below meth c s₁ Bd hml0 hP hK
  obtain ⟨rfl, hZ, hh⟩ := hP
  have hx := Bd.exec
  have hby := Bd.bytes
  have hlk := Bd.notSynchronized
  have hml : c.maxLocals = 1 := hml0
  have hown : s.vm.findClass "java/lang/String" = some m.cls := findClass_of_methodNamed Bd.named
  have hnm := (name_of_methodNamed Bd.named Bd.method).1
  have X0 : Stand p l e ({ frames := 0, cells := 0, slots := 0, locals := 0 } : Room) s m #[(.ref a1)] below meth c s₁ [] 0 0 := Stand.of_body Bd
  have e0 : s₁.heap = h0 := by rw [← hh, Bd.state]; rfl
  have N0 := Fr.nil n0
  have K0 : Keep h0 h0 [] := Keep.refl h0 _
  show Goes p e below s ({ frames := 0, cells := 0, slots := 0, locals := 0 } : Room).cells ({ frames := 0, cells := 0, slots := 0, locals := 0 } : Room).slots (Q8 Z a1 G1 h0 n0) s₁ (entryFrame m #[(.ref a1)] 1)
  refine Goes.step (fun t k => castTop (ef_8 m a1) k) ?_
  obtain ⟨T1, X1, e1, st1⟩ := getS2 X0 hx hZ hown (host := "") (Or.inl (hw _ (List.mem_of_getElem? (i := 54) rfl))) Via.refl e0 (O2.ext (OL.keep K0 all0).2) (g := (mkF m 0 #[.val (.ref a1)] [])) rfl (hb hby d8_0)
  refine Goes.step st1 ?_
  show Goes p e below s _ _ _ T1 (mkF m 3 #[.val (.ref a1)] [(.int G1)])
  refine Goes.step (fun _ k => XS.ifNo X1.here hx rfl (hb hby d8_3) rfl ((if0 _ _).trans (feq P3).1) k) ?_
  show Goes p e below s _ _ _ T1 (mkF m 6 #[.val (.ref a1)] [])
  refine Goes.step (fun _ k => XS.aloadN X1.here hx rfl (hb hby d8_6) rfl rfl k) ?_
  show Goes p e below s _ _ _ T1 (mkF m 7 #[.val (.ref a1)] [(.ref a1)])
  obtain ⟨T2, X2, e2, st2⟩ := getF X1 hx hZ hown (host := "") (Or.inl (hw _ (List.mem_of_getElem? (i := 55) rfl))) Via.refl e1 F_a1_coder_0 (g := (mkF m 7 #[.val (.ref a1)] [(.ref a1)])) rfl rfl (hb hby d8_7)
  refine Goes.step st2 ?_
  show Goes p e below s _ _ _ T2 (mkF m 10 #[.val (.ref a1)] [(.int (0 : Int32))])
  refine Goes.step (fun _ k => XS.goto X2.here hx rfl (pc0 := 10) (pc' := 14) rfl (hb hby d8_10) (by decide) (by decide) k) ?_
  show Goes p e below s _ _ _ T2 (mkF m 14 #[.val (.ref a1)] [(.int (0 : Int32))])
  exact Goes.outN X2 hx hlk (t := .byte) Bd.returns (by simp) (hb hby d8_14) (by rw [e2]; exact ⟨rfl, rfl, rfl⟩) (by decide) (by decide)
theorem d14_0 : decode jdk_42_method_154_code 0 = .ok (.getstatic 38, 3) := by decide +kernel
theorem d14_3 : decode jdk_42_method_154_code 3 = .ok (.ifCond .eq 14, 3) := by decide +kernel
theorem d14_6 : decode jdk_42_method_154_code 6 = .ok (.aload_n 0, 1) := by decide +kernel
theorem d14_7 : decode jdk_42_method_154_code 7 = .ok (.getfield 15, 3) := by decide +kernel
theorem d14_10 : decode jdk_42_method_154_code 10 = .ok (.ifCond .ne 7, 3) := by decide +kernel
theorem d14_13 : decode jdk_42_method_154_code 13 = .ok (.iconst 1, 1) := by decide +kernel
theorem d14_14 : decode jdk_42_method_154_code 14 = .ok (.goto 4, 3) := by decide +kernel
theorem d14_18 : decode jdk_42_method_154_code 18 = .ok (.ireturn, 1) := by decide +kernel
theorem pn_14 : plainName "java/lang/String" = true := by first | (simp [plainName, overriddenIn]; done) | decide +kernel
theorem ef_14 (m : MethodId) (a1 : Addr) : entryFrame m #[(.ref a1)] 1 = mkF m 0 #[.val (.ref a1)] [] := by first | (simp [entryFrame, mkF, argsToLocals, Value.category]; done) | rfl
def Q14 (Z : State) (a1 : Addr) (G1 : Int32) (h0 : Heap) (n0 : Nat) (v : Option Value) (h : Heap) (L : List Loc) : Prop := PQ h0 (some (.int (1 : Int32))) v h L
set_option maxRecDepth 65536 in
set_option maxHeartbeats 40000000 in
theorem rm14 (l : Launch) (Z : State) (a0 : Array Value) (hw : ∀ d ∈ tables_1, d.before a0 Z = true) (ws : List Jvm.Cond) (a1 : Addr) (G1 : Int32) (h0 : Heap) (n0 : Nat) (Z0 : n0 ≤ h0.size) (O2 : Sta Z Z.heap "java/lang/String" "COMPACT_STRINGS" "Z" (.int G1)) (P3 : ¬ (G1 = (0 : Int32))) (OL : Old Z n0 h0) (F_a1_coder_0 : Fld Z h0 a1 "java/lang/String" "coder" "B" (.int (0 : Int32))) :
    MetFree l (⟨"java/lang/String", "isLatin1", "()Z"⟩ : MethodName) (head1 (Jvm.Cond.code (⟨"java/lang/String", "isLatin1", "()Z"⟩ : MethodName) jdk_42_method_154_code 1 (some .boolean) :: ws) ({ frames := 0, cells := 0, slots := 0, locals := 0 } : Room)) (fun a U => a = #[(.ref a1)] ∧ Z.Warmed39 U.vm ∧ U.heap = h0) (fun _ _ _ _ _ => True) (fun _ U o U' => ∃ v L, o = .returned v ∧ Q14 Z a1 G1 h0 n0 v U'.heap L ∧ FrameEnd U o U' L ({ frames := 0, cells := 0, slots := 0, locals := 0 } : Room).cells ({ frames := 0, cells := 0, slots := 0, locals := 0 } : Room).slots) := by
  refine MetFree.of_bodySF (plainFor_of_name pn_14) hisR ?_
  intro p e s m args below meth c s₁ Bd hml0 hP hK
  obtain ⟨rfl, hZ, hh⟩ := hP
  have hx := Bd.exec
  have hby := Bd.bytes
  have hlk := Bd.notSynchronized
  have hml : c.maxLocals = 1 := hml0
  have hown : s.vm.findClass "java/lang/String" = some m.cls := findClass_of_methodNamed Bd.named
  have hnm := (name_of_methodNamed Bd.named Bd.method).1
  have X0 : Stand p l e ({ frames := 0, cells := 0, slots := 0, locals := 0 } : Room) s m #[(.ref a1)] below meth c s₁ [] 0 0 := Stand.of_body Bd
  have e0 : s₁.heap = h0 := by rw [← hh, Bd.state]; rfl
  have N0 := Fr.nil n0
  have K0 : Keep h0 h0 [] := Keep.refl h0 _
  show Goes p e below s ({ frames := 0, cells := 0, slots := 0, locals := 0 } : Room).cells ({ frames := 0, cells := 0, slots := 0, locals := 0 } : Room).slots (Q14 Z a1 G1 h0 n0) s₁ (entryFrame m #[(.ref a1)] 1)
  refine Goes.step (fun t k => castTop (ef_14 m a1) k) ?_
  obtain ⟨T1, X1, e1, st1⟩ := getS2 X0 hx hZ hown (host := "") (Or.inl (hw _ (List.mem_of_getElem? (i := 54) rfl))) Via.refl e0 (O2.ext (OL.keep K0 all0).2) (g := (mkF m 0 #[.val (.ref a1)] [])) rfl (hb hby d14_0)
  refine Goes.step st1 ?_
  show Goes p e below s _ _ _ T1 (mkF m 3 #[.val (.ref a1)] [(.int G1)])
  refine Goes.step (fun _ k => XS.ifNo X1.here hx rfl (hb hby d14_3) rfl ((if0 _ _).trans (feq P3).1) k) ?_
  show Goes p e below s _ _ _ T1 (mkF m 6 #[.val (.ref a1)] [])
  refine Goes.step (fun _ k => XS.aloadN X1.here hx rfl (hb hby d14_6) rfl rfl k) ?_
  show Goes p e below s _ _ _ T1 (mkF m 7 #[.val (.ref a1)] [(.ref a1)])
  obtain ⟨T2, X2, e2, st2⟩ := getF X1 hx hZ hown (host := "") (Or.inl (hw _ (List.mem_of_getElem? (i := 55) rfl))) Via.refl e1 F_a1_coder_0 (g := (mkF m 7 #[.val (.ref a1)] [(.ref a1)])) rfl rfl (hb hby d14_7)
  refine Goes.step st2 ?_
  show Goes p e below s _ _ _ T2 (mkF m 10 #[.val (.ref a1)] [(.int (0 : Int32))])
  refine Goes.step (fun _ k => XS.ifNo X2.here hx rfl (hb hby d14_10) rfl ((if0 _ _).trans (teq (by decide : (0 : Int32) = (0 : Int32))).2) k) ?_
  show Goes p e below s _ _ _ T2 (mkF m 13 #[.val (.ref a1)] [])
  refine Goes.step (fun _ k => XS.iconst X2.here hx rfl (hb hby d14_13) k) ?_
  show Goes p e below s _ _ _ T2 (mkF m 14 #[.val (.ref a1)] [(.int (1 : Int32))])
  refine Goes.step (fun _ k => XS.goto X2.here hx rfl (pc0 := 14) (pc' := 18) rfl (hb hby d14_14) (by decide) (by decide) k) ?_
  show Goes p e below s _ _ _ T2 (mkF m 18 #[.val (.ref a1)] [(.int (1 : Int32))])
  exact Goes.outN X2 hx hlk (t := .boolean) Bd.returns (by simp) (hb hby d14_18) (by rw [e2]; exact ⟨rfl, rfl, rfl⟩) (by decide) (by decide)
theorem d7_0 : decode jdk_42_method_54_code 0 = .ok (.aload_n 0, 1) := by decide +kernel
theorem d7_1 : decode jdk_42_method_54_code 1 = .ok (.getfield 9, 3) := by decide +kernel
theorem d7_4 : decode jdk_42_method_54_code 4 = .ok (.arraylength, 1) := by decide +kernel
theorem d7_5 : decode jdk_42_method_54_code 5 = .ok (.aload_n 0, 1) := by decide +kernel
theorem d7_6 : decode jdk_42_method_54_code 6 = .ok (.invokevirtual 335, 3) := by decide +kernel
theorem d7_9 : decode jdk_42_method_54_code 9 = .ok (.ishr, 1) := by decide +kernel
theorem d7_10 : decode jdk_42_method_54_code 10 = .ok (.ireturn, 1) := by decide +kernel
theorem pn_7 : plainName "java/lang/String" = true := by first | (simp [plainName, overriddenIn]; done) | decide +kernel
theorem pd_7_0 : parseMethodDescriptor "()B" = some ⟨[], some .byte⟩ := by decide +kernel
theorem ef_7 (m : MethodId) (a1 : Addr) : entryFrame m #[(.ref a1)] 1 = mkF m 0 #[.val (.ref a1)] [] := by first | (simp [entryFrame, mkF, argsToLocals, Value.category]; done) | rfl
def Q7 (Z : State) (a1 : Addr) (G1 : Int32) (av : Addr) (n : Nat) (f : Nat → Int32) (h0 : Heap) (n0 : Nat) (v : Option Value) (h : Heap) (L : List Loc) : Prop := PQ h0 (some (.int (Int32.ofNat n))) v h L
set_option maxRecDepth 65536 in
set_option maxHeartbeats 40000000 in
theorem rm7 (l : Launch) (Z : State) (a0 : Array Value) (hw : ∀ d ∈ tables_1, d.before a0 Z = true) (ws : List Jvm.Cond) (a1 : Addr) (G1 : Int32) (av : Addr) (n : Nat) (f : Nat → Int32) (h0 : Heap) (n0 : Nat) (Z0 : n0 ≤ h0.size) (O2 : Sta Z Z.heap "java/lang/String" "COMPACT_STRINGS" "Z" (.int G1)) (P3 : ¬ (G1 = (0 : Int32))) (OL : Old Z n0 h0) (E_a1_0 : Exa Z h0 a1 "java/lang/String") (F_a1_value_0 : Fld Z h0 a1 "java/lang/String" "value" "[B" (.ref av)) (F_a1_coder_0 : Fld Z h0 a1 "java/lang/String" "coder" "B" (.int (0 : Int32))) (A_av_0 : Ari Z h0 av .byte n f) :
    MetFree l (⟨"java/lang/String", "length", "()I"⟩ : MethodName) (head1 (Jvm.Cond.code (⟨"java/lang/String", "length", "()I"⟩ : MethodName) jdk_42_method_54_code 1 (some .int) :: ws) ({ frames := 1, cells := 0, slots := 0, locals := 13 } : Room)) (fun a U => a = #[(.ref a1)] ∧ Z.Warmed39 U.vm ∧ U.heap = h0) (fun _ _ _ _ _ => True) (fun _ U o U' => ∃ v L, o = .returned v ∧ Q7 Z a1 G1 av n f h0 n0 v U'.heap L ∧ FrameEnd U o U' L ({ frames := 1, cells := 0, slots := 0, locals := 13 } : Room).cells ({ frames := 1, cells := 0, slots := 0, locals := 13 } : Room).slots) := by
  refine MetFree.of_bodySF (plainFor_of_name pn_7) hisR ?_
  intro p e s m args below meth c s₁ Bd hml0 hP hK
  obtain ⟨rfl, hZ, hh⟩ := hP
  have hx := Bd.exec
  have hby := Bd.bytes
  have hlk := Bd.notSynchronized
  have hml : c.maxLocals = 1 := hml0
  have hown : s.vm.findClass "java/lang/String" = some m.cls := findClass_of_methodNamed Bd.named
  have hnm := (name_of_methodNamed Bd.named Bd.method).1
  have X0 : Stand p l e ({ frames := 1, cells := 0, slots := 0, locals := 13 } : Room) s m #[(.ref a1)] below meth c s₁ [] 0 0 := Stand.of_body Bd
  have e0 : s₁.heap = h0 := by rw [← hh, Bd.state]; rfl
  have N0 := Fr.nil n0
  have K0 : Keep h0 h0 [] := Keep.refl h0 _
  show Goes p e below s ({ frames := 1, cells := 0, slots := 0, locals := 13 } : Room).cells ({ frames := 1, cells := 0, slots := 0, locals := 13 } : Room).slots (Q7 Z a1 G1 av n f h0 n0) s₁ (entryFrame m #[(.ref a1)] 1)
  refine Goes.step (fun t k => castTop (ef_7 m a1) k) ?_
  refine Goes.step (fun _ k => XS.aloadN X0.here hx rfl (hb hby d7_0) rfl rfl k) ?_
  show Goes p e below s _ _ _ s₁ (mkF m 1 #[.val (.ref a1)] [(.ref a1)])
  obtain ⟨T1, X1, e1, st1⟩ := getF X0 hx hZ hown (host := "") (Or.inl (hw _ (List.mem_of_getElem? (i := 48) rfl))) Via.refl e0 F_a1_value_0 (g := (mkF m 1 #[.val (.ref a1)] [(.ref a1)])) rfl rfl (hb hby d7_1)
  refine Goes.step st1 ?_
  show Goes p e below s _ _ _ T1 (mkF m 4 #[.val (.ref a1)] [(.ref av)])
  refine Goes.step (fun _ k => rdL X1 hx hZ e1 A_av_0 (g := (mkF m 4 #[.val (.ref a1)] [(.ref av)])) rfl rfl (hb hby d7_4) _ k) ?_
  show Goes p e below s _ _ _ T1 (mkF m 5 #[.val (.ref a1)] [(.int (Int32.ofNat n))])
  refine Goes.step (fun _ k => XS.aloadN X1.here hx rfl (hb hby d7_5) rfl rfl k) ?_
  show Goes p e below s _ _ _ T1 (mkF m 6 #[.val (.ref a1)] [(.ref a1), (.int (Int32.ofNat n))])
  obtain ⟨T2, X2, e2, st2⟩ := own_pure (r := some (.int (0 : Int32))) (fun _ _ _ q => q) (callXV X1 hx hZ (C := "java/lang/String") (b := a1) (y := (⟨"java/lang/String", "coder", "()B"⟩ : MethodName)) (z := (⟨"java/lang/String", "coder", "()B"⟩ : MethodName)) hown (hw _ (List.mem_of_getElem? (i := 49) rfl)) (hw _ (List.mem_of_getElem? (i := 50) rfl)) (hw _ (List.mem_of_getElem? (i := 52) rfl)) (hw _ (List.mem_of_getElem? (i := 51) rfl)) (hw _ (List.mem_of_getElem? (i := 53) rfl)) (hw _ (List.mem_of_getElem? (i := 21) rfl)) (notFace_of_selects (args := #[]) (mvT hZ (hw _ (List.mem_of_getElem? (i := 52) rfl)))) (by decide) (W := 1) (argsL := []) (rest := [(.int (Int32.ofNat n))]) (rm8 l Z a0 hw [] a1 G1 h0 n0 Z0 O2 P3 (OL.keep K0 all0) F_a1_coder_0) (by decide) (by decide) (by decide) (by decide) e1 E_a1_0 (g := (mkF m 6 #[.val (.ref a1)] [(.ref a1), (.int (Int32.ofNat n))])) rfl (by rw [hml]; rfl) (lenOf pd_7_0 rfl) rfl (by show 2 * 0 + _ ≤ _; exact Nat.le_of_eq rfl) (hb hby d7_6))
  refine Goes.step st2 ?_
  show Goes p e below s _ _ _ T2 (mkF m 9 #[.val (.ref a1)] [(.int (0 : Int32)), (.int (Int32.ofNat n))])
  refine Goes.step (fun _ k => XS.ishr X2.here hx rfl (hb hby d7_9) rfl k) ?_
  show Goes p e below s _ _ _ T2 (mkF m 10 #[.val (.ref a1)] [(.int ((Int32.ofNat n) >>> ((0 : Int32) &&& 31)))])
  exact Goes.outI X2 hx hlk Bd.returns (hb hby d7_10) (by rw [e2]; exact ⟨by rw [own_shr0], rfl, rfl⟩) (by decide) (by decide)
theorem d17_0 : decode jdk_41_method_11_code 0 = .ok (.iload_n 0, 1) := by decide +kernel
theorem d17_1 : decode jdk_41_method_11_code 1 = .ok (.ifCond .lt 8, 3) := by decide +kernel
theorem d17_4 : decode jdk_41_method_11_code 4 = .ok (.iload_n 0, 1) := by decide +kernel
theorem d17_5 : decode jdk_41_method_11_code 5 = .ok (.iload_n 1, 1) := by decide +kernel
theorem d17_6 : decode jdk_41_method_11_code 6 = .ok (.if_icmp .lt 10, 3) := by decide +kernel
theorem d17_16 : decode jdk_41_method_11_code 16 = .ok (.iload_n 0, 1) := by decide +kernel
theorem d17_17 : decode jdk_41_method_11_code 17 = .ok (.ireturn, 1) := by decide +kernel
theorem pn_17 : plainName "jdk/internal/util/Preconditions" = true := by first | (simp [plainName, overriddenIn]; done) | decide +kernel
theorem ef_17 (m : MethodId) (p1 : Int32) (p2 : Int32) (o3 : Option Addr) : entryFrame m #[(.int p1), (.int p2), (ov o3)] 3 = mkF m 0 #[.val (.int p1), .val (.int p2), .val (ov o3)] [] := by cases o3 <;> rfl
def Q17 (Z : State) (p1 : Int32) (p2 : Int32) (o3 : Option Addr)  (h0 : Heap) (n0 : Nat) (v : Option Value) (h : Heap) (L : List Loc) : Prop := PQ h0 (some (.int p1)) v h L
set_option maxRecDepth 65536 in
set_option maxHeartbeats 40000000 in
theorem rm17 (l : Launch) (Z : State) (a0 : Array Value) (hw : ∀ d ∈ tables_1, d.before a0 Z = true) (ws : List Jvm.Cond) (p1 : Int32) (p2 : Int32) (o3 : Option Addr)  (h0 : Heap) (n0 : Nat) (Z0 : n0 ≤ h0.size) (h1 : ¬ (p1 < (0 : Int32))) (h2 : p1 < p2) :
    MetFree l (⟨"jdk/internal/util/Preconditions", "checkIndex", "(IILjava/util/function/BiFunction;)I"⟩ : MethodName) (head1 (Jvm.Cond.code (⟨"jdk/internal/util/Preconditions", "checkIndex", "(IILjava/util/function/BiFunction;)I"⟩ : MethodName) jdk_41_method_11_code 3 (some .int) :: ws) ({ frames := 0, cells := 0, slots := 0, locals := 0 } : Room)) (fun a U => a = #[(.int p1), (.int p2), (ov o3)] ∧ Z.Warmed39 U.vm ∧ U.heap = h0) (fun _ _ _ _ _ => True) (fun _ U o U' => ∃ v L, o = .returned v ∧ Q17 Z p1 p2 o3 h0 n0 v U'.heap L ∧ FrameEnd U o U' L ({ frames := 0, cells := 0, slots := 0, locals := 0 } : Room).cells ({ frames := 0, cells := 0, slots := 0, locals := 0 } : Room).slots) := by
  refine MetFree.of_bodySF (plainFor_of_name pn_17) hisR ?_
  intro p e s m args below meth c s₁ Bd hml0 hP hK
  obtain ⟨rfl, hZ, hh⟩ := hP
  have hx := Bd.exec
  have hby := Bd.bytes
  have hlk := Bd.notSynchronized
  have hml : c.maxLocals = 3 := hml0
  have hown : s.vm.findClass "jdk/internal/util/Preconditions" = some m.cls := findClass_of_methodNamed Bd.named
  have hnm := (name_of_methodNamed Bd.named Bd.method).1
  have X0 : Stand p l e ({ frames := 0, cells := 0, slots := 0, locals := 0 } : Room) s m #[(.int p1), (.int p2), (ov o3)] below meth c s₁ [] 0 0 := Stand.of_body Bd
  have e0 : s₁.heap = h0 := by rw [← hh, Bd.state]; rfl
  have N0 := Fr.nil n0
  have K0 : Keep h0 h0 [] := Keep.refl h0 _
  show Goes p e below s ({ frames := 0, cells := 0, slots := 0, locals := 0 } : Room).cells ({ frames := 0, cells := 0, slots := 0, locals := 0 } : Room).slots (Q17 Z p1 p2 o3 h0 n0) s₁ (entryFrame m #[(.int p1), (.int p2), (ov o3)] 3)
  refine Goes.step (fun t k => castTop (ef_17 m p1 p2 o3) k) ?_
  refine Goes.step (fun _ k => XS.iloadN X0.here hx rfl (hb hby d17_0) rfl k) ?_
  show Goes p e below s _ _ _ s₁ (mkF m 1 #[.val (.int p1), .val (.int p2), .val (ov o3)] [(.int p1)])
  refine Goes.step (fun _ k => XS.ifNo X0.here hx rfl (hb hby d17_1) rfl ((if0 _ _).trans (flt h1).1) k) ?_
  show Goes p e below s _ _ _ s₁ (mkF m 4 #[.val (.int p1), .val (.int p2), .val (ov o3)] [])
  refine Goes.step (fun _ k => XS.iloadN X0.here hx rfl (hb hby d17_4) rfl k) ?_
  show Goes p e below s _ _ _ s₁ (mkF m 5 #[.val (.int p1), .val (.int p2), .val (ov o3)] [(.int p1)])
  refine Goes.step (fun _ k => XS.iloadN X0.here hx rfl (hb hby d17_5) rfl k) ?_
  show Goes p e below s _ _ _ s₁ (mkF m 6 #[.val (.int p1), .val (.int p2), .val (ov o3)] [(.int p2), (.int p1)])
  refine Goes.step (fun _ k => XS.icmpYes X0.here hx rfl (pc0 := 6) (pc' := 16) rfl (hb hby d17_6) rfl (tlt h2).1 (by decide) (by decide) k) ?_
  show Goes p e below s _ _ _ s₁ (mkF m 16 #[.val (.int p1), .val (.int p2), .val (ov o3)] [])
  refine Goes.step (fun _ k => XS.iloadN X0.here hx rfl (hb hby d17_16) rfl k) ?_
  show Goes p e below s _ _ _ s₁ (mkF m 17 #[.val (.int p1), .val (.int p2), .val (ov o3)] [(.int p1)])
  exact Goes.outI X0 hx hlk Bd.returns (hb hby d17_17) (by rw [e0]; exact ⟨rfl, rfl, rfl⟩) (by decide) (by decide)
theorem d16_0 : decode jdk_42_method_155_code 0 = .ok (.iload_n 0, 1) := by decide +kernel
theorem d16_1 : decode jdk_42_method_155_code 1 = .ok (.iload_n 1, 1) := by decide +kernel
theorem d16_2 : decode jdk_42_method_155_code 2 = .ok (.getstatic 1053, 3) := by decide +kernel
theorem d16_5 : decode jdk_42_method_155_code 5 = .ok (.invokestatic 1059, 3) := by decide +kernel
theorem d16_8 : decode jdk_42_method_155_code 8 = .ok (.pop, 1) := by decide +kernel
theorem d16_9 : decode jdk_42_method_155_code 9 = .ok (.return_, 1) := by decide +kernel
theorem pn_16 : plainName "java/lang/String" = true := by first | (simp [plainName, overriddenIn]; done) | decide +kernel
theorem pd_16_0 : parseMethodDescriptor "(IILjava/util/function/BiFunction;)I" = some ⟨[.int, .int, (.object "java/util/function/BiFunction")], some .int⟩ := by decide +kernel
theorem ef_16 (m : MethodId) (p1 : Int32) (p2 : Int32) : entryFrame m #[(.int p1), (.int p2)] 2 = mkF m 0 #[.val (.int p1), .val (.int p2)] [] := by first | (simp [entryFrame, mkF, argsToLocals, Value.category]; done) | rfl
def Q16 (Z : State) (p1 : Int32) (p2 : Int32) (oF : Option Addr) (h0 : Heap) (n0 : Nat) (v : Option Value) (h : Heap) (L : List Loc) : Prop := PQ h0 none v h L
set_option maxRecDepth 65536 in
set_option maxHeartbeats 40000000 in
theorem rm16 (l : Launch) (Z : State) (a0 : Array Value) (hw : ∀ d ∈ tables_1, d.before a0 Z = true) (ws : List Jvm.Cond) (p1 : Int32) (p2 : Int32) (oF : Option Addr) (h0 : Heap) (n0 : Nat) (Z0 : n0 ≤ h0.size) (OL : Old Z n0 h0) (O4 : Sta Z Z.heap "jdk/internal/util/Preconditions" "SIOOBE_FORMATTER" "Ljava/util/function/BiFunction;" (ov oF)) (h1 : ¬ (p1 < (0 : Int32))) (h2 : p1 < p2) :
    MetFree l (⟨"java/lang/String", "checkIndex", "(II)V"⟩ : MethodName) (head1 (Jvm.Cond.code (⟨"java/lang/String", "checkIndex", "(II)V"⟩ : MethodName) jdk_42_method_155_code 2 none :: ws) ({ frames := 1, cells := 0, slots := 0, locals := 14 } : Room)) (fun a U => a = #[(.int p1), (.int p2)] ∧ Z.Warmed39 U.vm ∧ U.heap = h0) (fun _ _ _ _ _ => True) (fun _ U o U' => ∃ v L, o = .returned v ∧ Q16 Z p1 p2 oF h0 n0 v U'.heap L ∧ FrameEnd U o U' L ({ frames := 1, cells := 0, slots := 0, locals := 14 } : Room).cells ({ frames := 1, cells := 0, slots := 0, locals := 14 } : Room).slots) := by
  refine MetFree.of_bodySF (plainFor_of_name pn_16) hisR ?_
  intro p e s m args below meth c s₁ Bd hml0 hP hK
  obtain ⟨rfl, hZ, hh⟩ := hP
  have hx := Bd.exec
  have hby := Bd.bytes
  have hlk := Bd.notSynchronized
  have hml : c.maxLocals = 2 := hml0
  have hown : s.vm.findClass "java/lang/String" = some m.cls := findClass_of_methodNamed Bd.named
  have hnm := (name_of_methodNamed Bd.named Bd.method).1
  have X0 : Stand p l e ({ frames := 1, cells := 0, slots := 0, locals := 14 } : Room) s m #[(.int p1), (.int p2)] below meth c s₁ [] 0 0 := Stand.of_body Bd
  have e0 : s₁.heap = h0 := by rw [← hh, Bd.state]; rfl
  have N0 := Fr.nil n0
  have K0 : Keep h0 h0 [] := Keep.refl h0 _
  show Goes p e below s ({ frames := 1, cells := 0, slots := 0, locals := 14 } : Room).cells ({ frames := 1, cells := 0, slots := 0, locals := 14 } : Room).slots (Q16 Z p1 p2 oF h0 n0) s₁ (entryFrame m #[(.int p1), (.int p2)] 2)
  refine Goes.step (fun t k => castTop (ef_16 m p1 p2) k) ?_
  refine Goes.step (fun _ k => XS.iloadN X0.here hx rfl (hb hby d16_0) rfl k) ?_
  show Goes p e below s _ _ _ s₁ (mkF m 1 #[.val (.int p1), .val (.int p2)] [(.int p1)])
  refine Goes.step (fun _ k => XS.iloadN X0.here hx rfl (hb hby d16_1) rfl k) ?_
  show Goes p e below s _ _ _ s₁ (mkF m 2 #[.val (.int p1), .val (.int p2)] [(.int p2), (.int p1)])
  obtain ⟨T1, X1, e1, st1⟩ := getS2 X0 hx hZ hown (host := "") (Or.inl (hw _ (List.mem_of_getElem? (i := 101) rfl))) Via.refl e0 (O4.ext (OL.keep K0 all0).2) (g := (mkF m 2 #[.val (.int p1), .val (.int p2)] [(.int p2), (.int p1)])) rfl (hb hby d16_2)
  refine Goes.step st1 ?_
  show Goes p e below s _ _ _ T1 (mkF m 5 #[.val (.int p1), .val (.int p2)] [(ov oF), (.int p2), (.int p1)])
  obtain ⟨T2, X2, e2, st2⟩ := own_pure (r := some (.int p1)) (fun _ _ _ q => q) (callX X1 hx hZ (y := (⟨"jdk/internal/util/Preconditions", "checkIndex", "(IILjava/util/function/BiFunction;)I"⟩ : MethodName)) hown (hw _ (List.mem_of_getElem? (i := 103) rfl)) (hw _ (List.mem_of_getElem? (i := 104) rfl)) (hw _ (List.mem_of_getElem? (i := 102) rfl)) (hw _ (List.mem_of_getElem? (i := 105) rfl)) (by decide) (W := 0) (argsL := [(.int p1), (.int p2), (ov oF)]) (rest := []) (rm17 l Z a0 hw [] p1 p2 oF h0 n0 Z0 h1 h2) (by decide) (by decide) (by decide) (by decide) e1 (g := (mkF m 5 #[.val (.int p1), .val (.int p2)] [(ov oF), (.int p2), (.int p1)])) rfl (by rw [hml]; rfl) (lenOf pd_16_0 rfl) rfl (by show 2 * 0 + _ ≤ _; exact Nat.le_of_eq rfl) (hb hby d16_5))
  refine Goes.step st2 ?_
  show Goes p e below s _ _ _ T2 (mkF m 8 #[.val (.int p1), .val (.int p2)] [(.int p1)])
  refine Goes.step (fun _ k => XS.pop X2.here hx rfl (hb hby d16_8) rfl rfl k) ?_
  show Goes p e below s _ _ _ T2 (mkF m 9 #[.val (.int p1), .val (.int p2)] [])
  exact Goes.outV X2 hx hlk Bd.returns (hb hby d16_9) (by rw [e2]; exact ⟨rfl, rfl, rfl⟩) (by decide) (by decide)
theorem d15_0 : decode jdk_43_method_2_code 0 = .ok (.iload_n 1, 1) := by decide +kernel
theorem d15_1 : decode jdk_43_method_2_code 1 = .ok (.aload_n 0, 1) := by decide +kernel
theorem d15_2 : decode jdk_43_method_2_code 2 = .ok (.arraylength, 1) := by decide +kernel
theorem d15_3 : decode jdk_43_method_2_code 3 = .ok (.invokestatic 9, 3) := by decide +kernel
theorem d15_6 : decode jdk_43_method_2_code 6 = .ok (.aload_n 0, 1) := by decide +kernel
theorem d15_7 : decode jdk_43_method_2_code 7 = .ok (.iload_n 1, 1) := by decide +kernel
theorem d15_8 : decode jdk_43_method_2_code 8 = .ok (.baload, 1) := by decide +kernel
theorem d15_9 : decode jdk_43_method_2_code 9 = .ok (.sipush 255, 3) := by decide +kernel
theorem d15_12 : decode jdk_43_method_2_code 12 = .ok (.iand, 1) := by decide +kernel
theorem d15_13 : decode jdk_43_method_2_code 13 = .ok (.i2c, 1) := by decide +kernel
theorem d15_14 : decode jdk_43_method_2_code 14 = .ok (.ireturn, 1) := by decide +kernel
theorem pn_15 : plainName "java/lang/StringLatin1" = true := by first | (simp [plainName, overriddenIn]; done) | decide +kernel
theorem pd_15_0 : parseMethodDescriptor "(II)V" = some ⟨[.int, .int], none⟩ := by decide +kernel
theorem ef_15 (m : MethodId) (a1 : Addr) (p2 : Int32) : entryFrame m #[(.ref a1), (.int p2)] 2 = mkF m 0 #[.val (.ref a1), .val (.int p2)] [] := by first | (simp [entryFrame, mkF, argsToLocals, Value.category]; done) | rfl
def Q15 (Z : State) (a1 : Addr) (p2 : Int32) (oF : Option Addr) (i : Nat) (n : Nat) (f : Nat → Int32) (h0 : Heap) (n0 : Nat) (v : Option Value) (h : Heap) (L : List Loc) : Prop := PQ h0 (some (.int (own_c1 (f i)))) v h L
set_option maxRecDepth 65536 in
set_option maxHeartbeats 40000000 in
theorem rm15 (l : Launch) (Z : State) (a0 : Array Value) (hw : ∀ d ∈ tables_1, d.before a0 Z = true) (ws : List Jvm.Cond) (a1 : Addr) (p2 : Int32) (oF : Option Addr) (i : Nat) (n : Nat) (f : Nat → Int32) (h0 : Heap) (n0 : Nat) (Z0 : n0 ≤ h0.size) (OL : Old Z n0 h0) (O4 : Sta Z Z.heap "jdk/internal/util/Preconditions" "SIOOBE_FORMATTER" "Ljava/util/function/BiFunction;" (ov oF)) (A_a1_0 : Ari Z h0 a1 .byte n f) (hi : p2 = Int32.ofNat i) (hin : i < n) :
    MetFree l (⟨"java/lang/StringLatin1", "charAt", "([BI)C"⟩ : MethodName) (head1 (Jvm.Cond.code (⟨"java/lang/StringLatin1", "charAt", "([BI)C"⟩ : MethodName) jdk_43_method_2_code 2 (some .char) :: ws) ({ frames := 2, cells := 0, slots := 0, locals := 27 } : Room)) (fun a U => a = #[(.ref a1), (.int p2)] ∧ Z.Warmed39 U.vm ∧ U.heap = h0) (fun _ _ _ _ _ => True) (fun _ U o U' => ∃ v L, o = .returned v ∧ Q15 Z a1 p2 oF i n f h0 n0 v U'.heap L ∧ FrameEnd U o U' L ({ frames := 2, cells := 0, slots := 0, locals := 27 } : Room).cells ({ frames := 2, cells := 0, slots := 0, locals := 27 } : Room).slots) := by
  refine MetFree.of_bodySF (plainFor_of_name pn_15) hisR ?_
  intro p e s m args below meth c s₁ Bd hml0 hP hK
  obtain ⟨rfl, hZ, hh⟩ := hP
  have hx := Bd.exec
  have hby := Bd.bytes
  have hlk := Bd.notSynchronized
  have hml : c.maxLocals = 2 := hml0
  have hown : s.vm.findClass "java/lang/StringLatin1" = some m.cls := findClass_of_methodNamed Bd.named
  have hnm := (name_of_methodNamed Bd.named Bd.method).1
  have X0 : Stand p l e ({ frames := 2, cells := 0, slots := 0, locals := 27 } : Room) s m #[(.ref a1), (.int p2)] below meth c s₁ [] 0 0 := Stand.of_body Bd
  have e0 : s₁.heap = h0 := by rw [← hh, Bd.state]; rfl
  have N0 := Fr.nil n0
  have K0 : Keep h0 h0 [] := Keep.refl h0 _
  show Goes p e below s ({ frames := 2, cells := 0, slots := 0, locals := 27 } : Room).cells ({ frames := 2, cells := 0, slots := 0, locals := 27 } : Room).slots (Q15 Z a1 p2 oF i n f h0 n0) s₁ (entryFrame m #[(.ref a1), (.int p2)] 2)
  refine Goes.step (fun t k => castTop (ef_15 m a1 p2) k) ?_
  refine Goes.step (fun _ k => XS.iloadN X0.here hx rfl (hb hby d15_0) rfl k) ?_
  show Goes p e below s _ _ _ s₁ (mkF m 1 #[.val (.ref a1), .val (.int p2)] [(.int p2)])
  refine Goes.step (fun _ k => XS.aloadN X0.here hx rfl (hb hby d15_1) rfl rfl k) ?_
  show Goes p e below s _ _ _ s₁ (mkF m 2 #[.val (.ref a1), .val (.int p2)] [(.ref a1), (.int p2)])
  refine Goes.step (fun _ k => rdL X0 hx hZ e0 A_a1_0 (g := (mkF m 2 #[.val (.ref a1), .val (.int p2)] [(.ref a1), (.int p2)])) rfl rfl (hb hby d15_2) _ k) ?_
  show Goes p e below s _ _ _ s₁ (mkF m 3 #[.val (.ref a1), .val (.int p2)] [(.int (Int32.ofNat n)), (.int p2)])
  obtain ⟨T1, X1, e1, st1⟩ := own_pure (r := none) (fun _ _ _ q => q) (callX X0 hx hZ (y := (⟨"java/lang/String", "checkIndex", "(II)V"⟩ : MethodName)) hown (hw _ (List.mem_of_getElem? (i := 98) rfl)) (hw _ (List.mem_of_getElem? (i := 99) rfl)) (hw _ (List.mem_of_getElem? (i := 21) rfl)) (hw _ (List.mem_of_getElem? (i := 100) rfl)) (by decide) (W := 0) (argsL := [(.int p2), (.int (Int32.ofNat n))]) (rest := []) (rm16 l Z a0 hw [] p2 (Int32.ofNat n) oF h0 n0 Z0 (OL.keep K0 all0) O4 (own_ix0 A_a1_0 hi hin) (own_ix1 A_a1_0 hi hin)) (by decide) (by decide) (by decide) (by decide) e0 (g := (mkF m 3 #[.val (.ref a1), .val (.int p2)] [(.int (Int32.ofNat n)), (.int p2)])) rfl (by rw [hml]; rfl) (lenOf pd_15_0 rfl) rfl (by show 2 * 0 + _ ≤ _; exact Nat.le_of_eq rfl) (hb hby d15_3))
  refine Goes.step st1 ?_
  show Goes p e below s _ _ _ T1 (mkF m 6 #[.val (.ref a1), .val (.int p2)] [])
  refine Goes.step (fun _ k => XS.aloadN X1.here hx rfl (hb hby d15_6) rfl rfl k) ?_
  show Goes p e below s _ _ _ T1 (mkF m 7 #[.val (.ref a1), .val (.int p2)] [(.ref a1)])
  refine Goes.step (fun _ k => XS.iloadN X1.here hx rfl (hb hby d15_7) rfl k) ?_
  show Goes p e below s _ _ _ T1 (mkF m 8 #[.val (.ref a1), .val (.int p2)] [(.int p2), (.ref a1)])
  refine Goes.step (fun _ k => rdB X1 hx hZ e1 A_a1_0 (i) hi hin (g := (mkF m 8 #[.val (.ref a1), .val (.int p2)] [(.int p2), (.ref a1)])) rfl rfl (hb hby d15_8) _ k) ?_
  show Goes p e below s _ _ _ T1 (mkF m 9 #[.val (.ref a1), .val (.int p2)] [(.int (f (i)))])
  refine Goes.step (fun _ k => XS.sipush X1.here hx rfl (hb hby d15_9) k) ?_
  show Goes p e below s _ _ _ T1 (mkF m 12 #[.val (.ref a1), .val (.int p2)] [(.int (255 : Int32)), (.int (f (i)))])
  refine Goes.step (fun _ k => XS.iand X1.here hx rfl (hb hby d15_12) rfl k) ?_
  show Goes p e below s _ _ _ T1 (mkF m 13 #[.val (.ref a1), .val (.int p2)] [(.int ((f (i)) &&& (255 : Int32)))])
  refine Goes.step (fun _ k => XS.i2c X1.here hx rfl (hb hby d15_13) rfl k) ?_
  show Goes p e below s _ _ _ T1 (mkF m 14 #[.val (.ref a1), .val (.int p2)] [(.int (((f (i)) &&& (255 : Int32)).toUInt32.toUInt16.toUInt32.toInt32))])
  exact Goes.outN X1 hx hlk (t := .char) Bd.returns (by simp) (hb hby d15_14) (by rw [e1]; exact ⟨rfl, rfl, rfl⟩) (by decide) (by decide)
theorem d13_0 : decode jdk_42_method_56_code 0 = .ok (.aload_n 0, 1) := by decide +kernel
theorem d13_1 : decode jdk_42_method_56_code 1 = .ok (.invokevirtual 492, 3) := by decide +kernel
theorem d13_4 : decode jdk_42_method_56_code 4 = .ok (.ifCond .eq 12, 3) := by decide +kernel
theorem d13_7 : decode jdk_42_method_56_code 7 = .ok (.aload_n 0, 1) := by decide +kernel
theorem d13_8 : decode jdk_42_method_56_code 8 = .ok (.getfield 9, 3) := by decide +kernel
theorem d13_11 : decode jdk_42_method_56_code 11 = .ok (.iload_n 1, 1) := by decide +kernel
theorem d13_12 : decode jdk_42_method_56_code 12 = .ok (.invokestatic 495, 3) := by decide +kernel
theorem d13_15 : decode jdk_42_method_56_code 15 = .ok (.ireturn, 1) := by decide +kernel
theorem pn_13 : plainName "java/lang/String" = true := by first | (simp [plainName, overriddenIn]; done) | decide +kernel
theorem pd_13_0 : parseMethodDescriptor "()Z" = some ⟨[], some .boolean⟩ := by decide +kernel
theorem pd_13_1 : parseMethodDescriptor "([BI)C" = some ⟨[(.array .byte), .int], some .char⟩ := by decide +kernel
theorem ef_13 (m : MethodId) (a1 : Addr) (p2 : Int32) : entryFrame m #[(.ref a1), (.int p2)] 2 = mkF m 0 #[.val (.ref a1), .val (.int p2)] [] := by first | (simp [entryFrame, mkF, argsToLocals, Value.category]; done) | rfl
def Q13 (Z : State) (a1 : Addr) (p2 : Int32) (G1 : Int32) (oF : Option Addr) (av : Addr) (n : Nat) (f : Nat → Int32) (i : Nat) (h0 : Heap) (n0 : Nat) (v : Option Value) (h : Heap) (L : List Loc) : Prop := PQ h0 (some (.int (own_ch (f i)))) v h L
set_option maxRecDepth 65536 in
set_option maxHeartbeats 40000000 in
theorem rm13 (l : Launch) (Z : State) (a0 : Array Value) (hw : ∀ d ∈ tables_1, d.before a0 Z = true) (ws : List Jvm.Cond) (a1 : Addr) (p2 : Int32) (G1 : Int32) (oF : Option Addr) (av : Addr) (n : Nat) (f : Nat → Int32) (i : Nat) (h0 : Heap) (n0 : Nat) (Z0 : n0 ≤ h0.size) (O2 : Sta Z Z.heap "java/lang/String" "COMPACT_STRINGS" "Z" (.int G1)) (P3 : ¬ (G1 = (0 : Int32))) (OL : Old Z n0 h0) (O4 : Sta Z Z.heap "jdk/internal/util/Preconditions" "SIOOBE_FORMATTER" "Ljava/util/function/BiFunction;" (ov oF)) (E_a1_0 : Exa Z h0 a1 "java/lang/String") (F_a1_value_0 : Fld Z h0 a1 "java/lang/String" "value" "[B" (.ref av)) (F_a1_coder_0 : Fld Z h0 a1 "java/lang/String" "coder" "B" (.int (0 : Int32))) (A_av_0 : Ari Z h0 av .byte n f) (hi : p2 = Int32.ofNat i) (hin : i < n) :
    MetFree l (⟨"java/lang/String", "charAt", "(I)C"⟩ : MethodName) (head1 (Jvm.Cond.code (⟨"java/lang/String", "charAt", "(I)C"⟩ : MethodName) jdk_42_method_56_code 2 (some .char) :: ws) ({ frames := 3, cells := 0, slots := 0, locals := 40 } : Room)) (fun a U => a = #[(.ref a1), (.int p2)] ∧ Z.Warmed39 U.vm ∧ U.heap = h0) (fun _ _ _ _ _ => True) (fun _ U o U' => ∃ v L, o = .returned v ∧ Q13 Z a1 p2 G1 oF av n f i h0 n0 v U'.heap L ∧ FrameEnd U o U' L ({ frames := 3, cells := 0, slots := 0, locals := 40 } : Room).cells ({ frames := 3, cells := 0, slots := 0, locals := 40 } : Room).slots) := by
  refine MetFree.of_bodySF (plainFor_of_name pn_13) hisR ?_
  intro p e s m args below meth c s₁ Bd hml0 hP hK
  obtain ⟨rfl, hZ, hh⟩ := hP
  have hx := Bd.exec
  have hby := Bd.bytes
  have hlk := Bd.notSynchronized
  have hml : c.maxLocals = 2 := hml0
  have hown : s.vm.findClass "java/lang/String" = some m.cls := findClass_of_methodNamed Bd.named
  have hnm := (name_of_methodNamed Bd.named Bd.method).1
  have X0 : Stand p l e ({ frames := 3, cells := 0, slots := 0, locals := 40 } : Room) s m #[(.ref a1), (.int p2)] below meth c s₁ [] 0 0 := Stand.of_body Bd
  have e0 : s₁.heap = h0 := by rw [← hh, Bd.state]; rfl
  have N0 := Fr.nil n0
  have K0 : Keep h0 h0 [] := Keep.refl h0 _
  show Goes p e below s ({ frames := 3, cells := 0, slots := 0, locals := 40 } : Room).cells ({ frames := 3, cells := 0, slots := 0, locals := 40 } : Room).slots (Q13 Z a1 p2 G1 oF av n f i h0 n0) s₁ (entryFrame m #[(.ref a1), (.int p2)] 2)
  refine Goes.step (fun t k => castTop (ef_13 m a1 p2) k) ?_
  refine Goes.step (fun _ k => XS.aloadN X0.here hx rfl (hb hby d13_0) rfl rfl k) ?_
  show Goes p e below s _ _ _ s₁ (mkF m 1 #[.val (.ref a1), .val (.int p2)] [(.ref a1)])
  obtain ⟨T1, X1, e1, st1⟩ := own_pure (r := some (.int (1 : Int32))) (fun _ _ _ q => q) (callXV X0 hx hZ (C := "java/lang/String") (b := a1) (y := (⟨"java/lang/String", "isLatin1", "()Z"⟩ : MethodName)) (z := (⟨"java/lang/String", "isLatin1", "()Z"⟩ : MethodName)) hown (hw _ (List.mem_of_getElem? (i := 89) rfl)) (hw _ (List.mem_of_getElem? (i := 90) rfl)) (hw _ (List.mem_of_getElem? (i := 92) rfl)) (hw _ (List.mem_of_getElem? (i := 91) rfl)) (hw _ (List.mem_of_getElem? (i := 93) rfl)) (hw _ (List.mem_of_getElem? (i := 21) rfl)) (notFace_of_selects (args := #[]) (mvT hZ (hw _ (List.mem_of_getElem? (i := 92) rfl)))) (by decide) (W := 0) (argsL := []) (rest := []) (rm14 l Z a0 hw [] a1 G1 h0 n0 Z0 O2 P3 (OL.keep K0 all0) F_a1_coder_0) (by decide) (by decide) (by decide) (by decide) e0 E_a1_0 (g := (mkF m 1 #[.val (.ref a1), .val (.int p2)] [(.ref a1)])) rfl (by rw [hml]; rfl) (lenOf pd_13_0 rfl) rfl (by show 2 * 0 + _ ≤ _; exact Nat.le_of_eq rfl) (hb hby d13_1))
  refine Goes.step st1 ?_
  show Goes p e below s _ _ _ T1 (mkF m 4 #[.val (.ref a1), .val (.int p2)] [(.int (1 : Int32))])
  refine Goes.step (fun _ k => XS.ifNo X1.here hx rfl (hb hby d13_4) rfl ((if0 _ _).trans (feq (by decide : ¬ ((1 : Int32) = (0 : Int32)))).1) k) ?_
  show Goes p e below s _ _ _ T1 (mkF m 7 #[.val (.ref a1), .val (.int p2)] [])
  refine Goes.step (fun _ k => XS.aloadN X1.here hx rfl (hb hby d13_7) rfl rfl k) ?_
  show Goes p e below s _ _ _ T1 (mkF m 8 #[.val (.ref a1), .val (.int p2)] [(.ref a1)])
  obtain ⟨T2, X2, e2, st2⟩ := getF X1 hx hZ hown (host := "") (Or.inl (hw _ (List.mem_of_getElem? (i := 48) rfl))) Via.refl e1 F_a1_value_0 (g := (mkF m 8 #[.val (.ref a1), .val (.int p2)] [(.ref a1)])) rfl rfl (hb hby d13_8)
  refine Goes.step st2 ?_
  show Goes p e below s _ _ _ T2 (mkF m 11 #[.val (.ref a1), .val (.int p2)] [(.ref av)])
  refine Goes.step (fun _ k => XS.iloadN X2.here hx rfl (hb hby d13_11) rfl k) ?_
  show Goes p e below s _ _ _ T2 (mkF m 12 #[.val (.ref a1), .val (.int p2)] [(.int p2), (.ref av)])
  obtain ⟨T3, X3, e3, st3⟩ := own_pure (r := some (.int (own_c1 (f i)))) (fun _ _ _ q => q) (callX X2 hx hZ (y := (⟨"java/lang/StringLatin1", "charAt", "([BI)C"⟩ : MethodName)) hown (hw _ (List.mem_of_getElem? (i := 94) rfl)) (hw _ (List.mem_of_getElem? (i := 95) rfl)) (hw _ (List.mem_of_getElem? (i := 96) rfl)) (hw _ (List.mem_of_getElem? (i := 97) rfl)) (by decide) (W := 0) (argsL := [(.ref av), (.int p2)]) (rest := []) (rm15 l Z a0 hw [] av p2 oF i n f h0 n0 Z0 (OL.keep K0 all0) O4 A_av_0 hi hin) (by decide) (by decide) (by decide) (by decide) e2 (g := (mkF m 12 #[.val (.ref a1), .val (.int p2)] [(.int p2), (.ref av)])) rfl (by rw [hml]; rfl) (lenOf pd_13_1 rfl) rfl (by show 2 * 0 + _ ≤ _; exact Nat.le_of_eq rfl) (hb hby d13_12))
  refine Goes.step st3 ?_
  show Goes p e below s _ _ _ T3 (mkF m 15 #[.val (.ref a1), .val (.int p2)] [(.int (own_c1 (f i)))])
  exact Goes.outN X3 hx hlk (t := .char) Bd.returns (by simp) (hb hby d13_15) (by rw [e3]; exact ⟨rfl, rfl, rfl⟩) (by decide) (by decide)
theorem d12_0 : decode jdk_42_method_147_code 0 = .ok (.aload_n 0, 1) := by decide +kernel
theorem d12_1 : decode jdk_42_method_147_code 1 = .ok (.invokevirtual 335, 3) := by decide +kernel
theorem d12_4 : decode jdk_42_method_147_code 4 = .ok (.iload_n 3, 1) := by decide +kernel
theorem d12_5 : decode jdk_42_method_147_code 5 = .ok (.if_icmp .ne 23, 3) := by decide +kernel
theorem d12_8 : decode jdk_42_method_147_code 8 = .ok (.aload_n 0, 1) := by decide +kernel
theorem d12_9 : decode jdk_42_method_147_code 9 = .ok (.getfield 9, 3) := by decide +kernel
theorem d12_12 : decode jdk_42_method_147_code 12 = .ok (.iconst 0, 1) := by decide +kernel
theorem d12_13 : decode jdk_42_method_147_code 13 = .ok (.aload_n 1, 1) := by decide +kernel
theorem d12_14 : decode jdk_42_method_147_code 14 = .ok (.iload_n 2, 1) := by decide +kernel
theorem d12_15 : decode jdk_42_method_147_code 15 = .ok (.iload_n 3, 1) := by decide +kernel
theorem d12_16 : decode jdk_42_method_147_code 16 = .ok (.ishl, 1) := by decide +kernel
theorem d12_17 : decode jdk_42_method_147_code 17 = .ok (.aload_n 0, 1) := by decide +kernel
theorem d12_18 : decode jdk_42_method_147_code 18 = .ok (.getfield 9, 3) := by decide +kernel
theorem d12_21 : decode jdk_42_method_147_code 21 = .ok (.arraylength, 1) := by decide +kernel
theorem d12_22 : decode jdk_42_method_147_code 22 = .ok (.invokestatic 212, 3) := by decide +kernel
theorem d12_25 : decode jdk_42_method_147_code 25 = .ok (.goto 18, 3) := by decide +kernel
theorem d12_43 : decode jdk_42_method_147_code 43 = .ok (.return_, 1) := by decide +kernel
theorem pn_12 : plainName "java/lang/String" = true := by first | (simp [plainName, overriddenIn]; done) | decide +kernel
theorem pd_12_0 : parseMethodDescriptor "()B" = some ⟨[], some .byte⟩ := by decide +kernel
theorem ef_12 (m : MethodId) (a1 : Addr) (a2 : Addr) : entryFrame m #[(.ref a1), (.ref a2), (.int (0 : Int32)), (.int (0 : Int32))] 4 = mkF m 0 #[.val (.ref a1), .val (.ref a2), .val (.int (0 : Int32)), .val (.int (0 : Int32))] [] := by first | (simp [entryFrame, mkF, argsToLocals, Value.category]; done) | rfl
def Q12 (Z : State) (a1 : Addr) (a2 : Addr) (G1 : Int32) (av : Addr) (n : Nat) (f : Nat → Int32) (g : Nat → Int32) (h0 : Heap) (n0 : Nat) (v : Option Value) (h : Heap) (L : List Loc) : Prop := v = none ∧ Fr n0 L ∧ Keep h0 h [a2] ∧ Ari Z h a2 .byte 6 (blit f g 0 0 n)
set_option maxRecDepth 65536 in
set_option maxHeartbeats 40000000 in
theorem rm12 (l : Launch) (Z : State) (a0 : Array Value) (hw : ∀ d ∈ tables_1, d.before a0 Z = true) (ws : List Jvm.Cond) (a1 : Addr) (a2 : Addr) (G1 : Int32) (av : Addr) (n : Nat) (f : Nat → Int32) (g : Nat → Int32) (h0 : Heap) (n0 : Nat) (Z0 : n0 ≤ h0.size) (O2 : Sta Z Z.heap "java/lang/String" "COMPACT_STRINGS" "Z" (.int G1)) (P3 : ¬ (G1 = (0 : Int32))) (OL : Old Z n0 h0) (E_a1_0 : Exa Z h0 a1 "java/lang/String") (F_a1_value_0 : Fld Z h0 a1 "java/lang/String" "value" "[B" (.ref av)) (F_a1_coder_0 : Fld Z h0 a1 "java/lang/String" "coder" "B" (.int (0 : Int32))) (A_av_0 : Ari Z h0 av .byte n f) (A_a2_0 : Ari Z h0 a2 .byte 6 g) (hn6 : n ≤ 6) (ge_a2 : n0 ≤ a2) :
    MetFree l (⟨"java/lang/String", "getBytes", "([BIB)V"⟩ : MethodName) (head1 (Jvm.Cond.code (⟨"java/lang/String", "getBytes", "([BIB)V"⟩ : MethodName) jdk_42_method_147_code 4 none :: ws) ({ frames := 1, cells := 0, slots := 0, locals := 27 } : Room)) (fun a U => a = #[(.ref a1), (.ref a2), (.int (0 : Int32)), (.int (0 : Int32))] ∧ Z.Warmed39 U.vm ∧ U.heap = h0) (fun _ _ _ _ _ => True) (fun _ U o U' => ∃ v L, o = .returned v ∧ Q12 Z a1 a2 G1 av n f g h0 n0 v U'.heap L ∧ FrameEnd U o U' L ({ frames := 1, cells := 0, slots := 0, locals := 27 } : Room).cells ({ frames := 1, cells := 0, slots := 0, locals := 27 } : Room).slots) := by
  refine MetFree.of_bodySF (plainFor_of_name pn_12) hisR ?_
  intro p e s m args below meth c s₁ Bd hml0 hP hK
  obtain ⟨rfl, hZ, hh⟩ := hP
  have hx := Bd.exec
  have hby := Bd.bytes
  have hlk := Bd.notSynchronized
  have hml : c.maxLocals = 4 := hml0
  have hown : s.vm.findClass "java/lang/String" = some m.cls := findClass_of_methodNamed Bd.named
  have hnm := (name_of_methodNamed Bd.named Bd.method).1
  have X0 : Stand p l e ({ frames := 1, cells := 0, slots := 0, locals := 27 } : Room) s m #[(.ref a1), (.ref a2), (.int (0 : Int32)), (.int (0 : Int32))] below meth c s₁ [] 0 0 := Stand.of_body Bd
  have e0 : s₁.heap = h0 := by rw [← hh, Bd.state]; rfl
  have N0 := Fr.nil n0
  have K0 : Keep h0 h0 [a2] := Keep.refl h0 _
  show Goes p e below s ({ frames := 1, cells := 0, slots := 0, locals := 27 } : Room).cells ({ frames := 1, cells := 0, slots := 0, locals := 27 } : Room).slots (Q12 Z a1 a2 G1 av n f g h0 n0) s₁ (entryFrame m #[(.ref a1), (.ref a2), (.int (0 : Int32)), (.int (0 : Int32))] 4)
  refine Goes.step (fun t k => castTop (ef_12 m a1 a2) k) ?_
  refine Goes.step (fun _ k => XS.aloadN X0.here hx rfl (hb hby d12_0) rfl rfl k) ?_
  show Goes p e below s _ _ _ s₁ (mkF m 1 #[.val (.ref a1), .val (.ref a2), .val (.int (0 : Int32)), .val (.int (0 : Int32))] [(.ref a1)])
  obtain ⟨T1, X1, e1, st1⟩ := own_pure (r := some (.int (0 : Int32))) (fun _ _ _ q => q) (callXV X0 hx hZ (C := "java/lang/String") (b := a1) (y := (⟨"java/lang/String", "coder", "()B"⟩ : MethodName)) (z := (⟨"java/lang/String", "coder", "()B"⟩ : MethodName)) hown (hw _ (List.mem_of_getElem? (i := 49) rfl)) (hw _ (List.mem_of_getElem? (i := 50) rfl)) (hw _ (List.mem_of_getElem? (i := 52) rfl)) (hw _ (List.mem_of_getElem? (i := 51) rfl)) (hw _ (List.mem_of_getElem? (i := 53) rfl)) (hw _ (List.mem_of_getElem? (i := 21) rfl)) (notFace_of_selects (args := #[]) (mvT hZ (hw _ (List.mem_of_getElem? (i := 52) rfl)))) (by decide) (W := 0) (argsL := []) (rest := []) (rm8 l Z a0 hw [] a1 G1 h0 n0 Z0 O2 P3 (OL.keep K0 (allS ge_a2 all0)) F_a1_coder_0) (by decide) (by decide) (by decide) (by decide) e0 E_a1_0 (g := (mkF m 1 #[.val (.ref a1), .val (.ref a2), .val (.int (0 : Int32)), .val (.int (0 : Int32))] [(.ref a1)])) rfl (by rw [hml]; rfl) (lenOf pd_12_0 rfl) rfl (by show 2 * 0 + _ ≤ _; exact Nat.le_of_eq rfl) (hb hby d12_1))
  refine Goes.step st1 ?_
  show Goes p e below s _ _ _ T1 (mkF m 4 #[.val (.ref a1), .val (.ref a2), .val (.int (0 : Int32)), .val (.int (0 : Int32))] [(.int (0 : Int32))])
  refine Goes.step (fun _ k => XS.iloadN X1.here hx rfl (hb hby d12_4) rfl k) ?_
  show Goes p e below s _ _ _ T1 (mkF m 5 #[.val (.ref a1), .val (.ref a2), .val (.int (0 : Int32)), .val (.int (0 : Int32))] [(.int (0 : Int32)), (.int (0 : Int32))])
  refine Goes.step (fun _ k => XS.icmpNo X1.here hx rfl (hb hby d12_5) rfl (teq (by decide : (0 : Int32) = (0 : Int32))).2 k) ?_
  show Goes p e below s _ _ _ T1 (mkF m 8 #[.val (.ref a1), .val (.ref a2), .val (.int (0 : Int32)), .val (.int (0 : Int32))] [])
  refine Goes.step (fun _ k => XS.aloadN X1.here hx rfl (hb hby d12_8) rfl rfl k) ?_
  show Goes p e below s _ _ _ T1 (mkF m 9 #[.val (.ref a1), .val (.ref a2), .val (.int (0 : Int32)), .val (.int (0 : Int32))] [(.ref a1)])
  obtain ⟨T2, X2, e2, st2⟩ := getF X1 hx hZ hown (host := "") (Or.inl (hw _ (List.mem_of_getElem? (i := 48) rfl))) Via.refl e1 F_a1_value_0 (g := (mkF m 9 #[.val (.ref a1), .val (.ref a2), .val (.int (0 : Int32)), .val (.int (0 : Int32))] [(.ref a1)])) rfl rfl (hb hby d12_9)
  refine Goes.step st2 ?_
  show Goes p e below s _ _ _ T2 (mkF m 12 #[.val (.ref a1), .val (.ref a2), .val (.int (0 : Int32)), .val (.int (0 : Int32))] [(.ref av)])
  refine Goes.step (fun _ k => XS.iconst X2.here hx rfl (hb hby d12_12) k) ?_
  show Goes p e below s _ _ _ T2 (mkF m 13 #[.val (.ref a1), .val (.ref a2), .val (.int (0 : Int32)), .val (.int (0 : Int32))] [(.int (0 : Int32)), (.ref av)])
  refine Goes.step (fun _ k => XS.aloadN X2.here hx rfl (hb hby d12_13) rfl rfl k) ?_
  show Goes p e below s _ _ _ T2 (mkF m 14 #[.val (.ref a1), .val (.ref a2), .val (.int (0 : Int32)), .val (.int (0 : Int32))] [(.ref a2), (.int (0 : Int32)), (.ref av)])
  refine Goes.step (fun _ k => XS.iloadN X2.here hx rfl (hb hby d12_14) rfl k) ?_
  show Goes p e below s _ _ _ T2 (mkF m 15 #[.val (.ref a1), .val (.ref a2), .val (.int (0 : Int32)), .val (.int (0 : Int32))] [(.int (0 : Int32)), (.ref a2), (.int (0 : Int32)), (.ref av)])
  refine Goes.step (fun _ k => XS.iloadN X2.here hx rfl (hb hby d12_15) rfl k) ?_
  show Goes p e below s _ _ _ T2 (mkF m 16 #[.val (.ref a1), .val (.ref a2), .val (.int (0 : Int32)), .val (.int (0 : Int32))] [(.int (0 : Int32)), (.int (0 : Int32)), (.ref a2), (.int (0 : Int32)), (.ref av)])
  refine Goes.step (fun _ k => XS.ishl X2.here hx rfl (hb hby d12_16) rfl k) ?_
  show Goes p e below s _ _ _ T2 (mkF m 17 #[.val (.ref a1), .val (.ref a2), .val (.int (0 : Int32)), .val (.int (0 : Int32))] [(.int ((0 : Int32) <<< ((0 : Int32) &&& 31))), (.ref a2), (.int (0 : Int32)), (.ref av)])
  refine Goes.step (fun _ k => XS.aloadN X2.here hx rfl (hb hby d12_17) rfl rfl k) ?_
  show Goes p e below s _ _ _ T2 (mkF m 18 #[.val (.ref a1), .val (.ref a2), .val (.int (0 : Int32)), .val (.int (0 : Int32))] [(.ref a1), (.int ((0 : Int32) <<< ((0 : Int32) &&& 31))), (.ref a2), (.int (0 : Int32)), (.ref av)])
  obtain ⟨T3, X3, e3, st3⟩ := getF X2 hx hZ hown (host := "") (Or.inl (hw _ (List.mem_of_getElem? (i := 48) rfl))) Via.refl e2 F_a1_value_0 (g := (mkF m 18 #[.val (.ref a1), .val (.ref a2), .val (.int (0 : Int32)), .val (.int (0 : Int32))] [(.ref a1), (.int ((0 : Int32) <<< ((0 : Int32) &&& 31))), (.ref a2), (.int (0 : Int32)), (.ref av)])) rfl rfl (hb hby d12_18)
  refine Goes.step st3 ?_
  show Goes p e below s _ _ _ T3 (mkF m 21 #[.val (.ref a1), .val (.ref a2), .val (.int (0 : Int32)), .val (.int (0 : Int32))] [(.ref av), (.int ((0 : Int32) <<< ((0 : Int32) &&& 31))), (.ref a2), (.int (0 : Int32)), (.ref av)])
  refine Goes.step (fun _ k => rdL X3 hx hZ e3 A_av_0 (g := (mkF m 21 #[.val (.ref a1), .val (.ref a2), .val (.int (0 : Int32)), .val (.int (0 : Int32))] [(.ref av), (.int ((0 : Int32) <<< ((0 : Int32) &&& 31))), (.ref a2), (.int (0 : Int32)), (.ref av)])) rfl rfl (hb hby d12_21) _ k) ?_
  show Goes p e below s _ _ _ T3 (mkF m 22 #[.val (.ref a1), .val (.ref a2), .val (.int (0 : Int32)), .val (.int (0 : Int32))] [(.int (Int32.ofNat n)), (.int ((0 : Int32) <<< ((0 : Int32) &&& 31))), (.ref a2), (.int (0 : Int32)), (.ref av)])
  obtain ⟨T4, h4, L4, X4, e4, N_4, KQ4, A4, st4⟩ := copyI X3 hx hZ hown (hw _ (List.mem_of_getElem? (i := 79) rfl)) (hw _ (List.mem_of_getElem? (i := 82) rfl)) (hw _ (List.mem_of_getElem? (i := 80) rfl)) (hw _ (List.mem_of_getElem? (i := 81) rfl)) e3 (sp := 0) (dp := 0) (k := n) A_av_0 A_a2_0 rfl rfl (own_shl0 _) rfl (by omega) (by omega) N0 ge_a2 (g := (mkF m 22 #[.val (.ref a1), .val (.ref a2), .val (.int (0 : Int32)), .val (.int (0 : Int32))] [(.int (Int32.ofNat n)), (.int ((0 : Int32) <<< ((0 : Int32) &&& 31))), (.ref a2), (.int (0 : Int32)), (.ref av)])) rfl (by rw [hml]; rfl) (rest := []) rfl (hb hby d12_22) (by decide) (W := 0) (by show 2 * 0 + _ ≤ _; exact Nat.le_of_eq rfl) (by decide)
  refine Goes.step st4 ?_
  have E_a1_4 := E_a1_0.keep KQ4
  have z_4 : n0 ≤ h4.size := Nat.le_trans Z0 KQ4.1
  have K_4 : Keep h0 h4 [a2] := Keep.trans K0 KQ4 (allS (Or.inl (List.mem_of_getElem? (i := 0) rfl)) all0)
  show Goes p e below s _ _ _ T4 (mkF m 25 #[.val (.ref a1), .val (.ref a2), .val (.int (0 : Int32)), .val (.int (0 : Int32))] [])
  refine Goes.step (fun _ k => XS.goto X4.here hx rfl (pc0 := 25) (pc' := 43) rfl (hb hby d12_25) (by decide) (by decide) k) ?_
  show Goes p e below s _ _ _ T4 (mkF m 43 #[.val (.ref a1), .val (.ref a2), .val (.int (0 : Int32)), .val (.int (0 : Int32))] [])
  exact Goes.outV X4 hx hlk Bd.returns (hb hby d12_43) (by rw [e4]; exact ⟨rfl, N_4, K_4, A4⟩) (by decide) (by decide)
theorem d3_0 : decode jdk_68_method_2_code 0 = .ok (.aload_n 0, 1) := by decide +kernel
theorem d3_1 : decode jdk_68_method_2_code 1 = .ok (.invokespecial 3, 3) := by decide +kernel
theorem d3_4 : decode jdk_68_method_2_code 4 = .ok (.getstatic 18, 3) := by decide +kernel
theorem d3_7 : decode jdk_68_method_2_code 7 = .ok (.ifCond .eq 18, 3) := by decide +kernel
theorem d3_10 : decode jdk_68_method_2_code 10 = .ok (.aload_n 0, 1) := by decide +kernel
theorem d3_11 : decode jdk_68_method_2_code 11 = .ok (.iload_n 1, 1) := by decide +kernel
theorem d3_12 : decode jdk_68_method_2_code 12 = .ok (.newarray .byte, 2) := by decide +kernel
theorem d3_14 : decode jdk_68_method_2_code 14 = .ok (.putfield 15, 3) := by decide +kernel
theorem d3_17 : decode jdk_68_method_2_code 17 = .ok (.aload_n 0, 1) := by decide +kernel
theorem d3_18 : decode jdk_68_method_2_code 18 = .ok (.iconst 0, 1) := by decide +kernel
theorem d3_19 : decode jdk_68_method_2_code 19 = .ok (.putfield 22, 3) := by decide +kernel
theorem d3_22 : decode jdk_68_method_2_code 22 = .ok (.goto 16, 3) := by decide +kernel
theorem d3_38 : decode jdk_68_method_2_code 38 = .ok (.return_, 1) := by decide +kernel
theorem pn_3 : plainName "java/lang/AbstractStringBuilder" = true := by first | (simp [plainName, overriddenIn]; done) | decide +kernel
theorem ef_3 (m : MethodId) (a1 : Addr) : entryFrame m #[(.ref a1), (.int (6 : Int32))] 2 = mkF m 0 #[.val (.ref a1), .val (.int (6 : Int32))] [] := by first | (simp [entryFrame, mkF, argsToLocals, Value.category]; done) | rfl
def Q3 (Z : State) (a1 : Addr) (G1 : Int32) (h0 : Heap) (n0 : Nat) (v : Option Value) (h : Heap) (L : List Loc) : Prop := v = none ∧ Fr n0 L ∧ Keep h0 h [a1] ∧ ∃ o, h0.size ≤ o ∧ Exa Z h a1 "java/lang/StringBuilder" ∧ Fld Z h a1 "java/lang/AbstractStringBuilder" "value" "[B" (.ref o) ∧ Fld Z h a1 "java/lang/AbstractStringBuilder" "coder" "B" (.int (0 : Int32)) ∧ Fld Z h a1 "java/lang/AbstractStringBuilder" "count" "I" (.int (0 : Int32)) ∧ Ari Z h o .byte 6 (fun _ => 0) ∧ Exa Z h o "[B"
set_option maxRecDepth 65536 in
set_option maxHeartbeats 40000000 in
theorem rm3 (l : Launch) (Z : State) (a0 : Array Value) (hw : ∀ d ∈ tables_1, d.before a0 Z = true) (ws : List Jvm.Cond) (a1 : Addr) (G1 : Int32) (h0 : Heap) (n0 : Nat) (Z0 : n0 ≤ h0.size) (O2 : Sta Z Z.heap "java/lang/String" "COMPACT_STRINGS" "Z" (.int G1)) (P3 : ¬ (G1 = (0 : Int32))) (OL : Old Z n0 h0) (E_a1_0 : Exa Z h0 a1 "java/lang/StringBuilder") (F_a1_value_0 : Fld Z h0 a1 "java/lang/AbstractStringBuilder" "value" "[B" .null) (F_a1_coder_0 : Fld Z h0 a1 "java/lang/AbstractStringBuilder" "coder" "B" (.int (0 : Int32))) (F_a1_count_0 : Fld Z h0 a1 "java/lang/AbstractStringBuilder" "count" "I" (.int (0 : Int32))) (ge_a1 : n0 ≤ a1) :
    MetFree l (⟨"java/lang/AbstractStringBuilder", "<init>", "(I)V"⟩ : MethodName) (head1 (Jvm.Cond.code (⟨"java/lang/AbstractStringBuilder", "<init>", "(I)V"⟩ : MethodName) jdk_68_method_2_code 2 none :: ws) ({ frames := 1, cells := 1, slots := 6, locals := 12 } : Room)) (fun a U => a = #[(.ref a1), (.int (6 : Int32))] ∧ Z.Warmed39 U.vm ∧ U.heap = h0) (fun _ _ _ _ _ => True) (fun _ U o U' => ∃ v L, o = .returned v ∧ Q3 Z a1 G1 h0 n0 v U'.heap L ∧ FrameEnd U o U' L ({ frames := 1, cells := 1, slots := 6, locals := 12 } : Room).cells ({ frames := 1, cells := 1, slots := 6, locals := 12 } : Room).slots) := by
  refine MetFree.of_bodySF (plainFor_of_name pn_3) hisR ?_
  intro p e s m args below meth c s₁ Bd hml0 hP hK
  obtain ⟨rfl, hZ, hh⟩ := hP
  have hx := Bd.exec
  have hby := Bd.bytes
  have hlk := Bd.notSynchronized
  have hml : c.maxLocals = 2 := hml0
  have hown : s.vm.findClass "java/lang/AbstractStringBuilder" = some m.cls := findClass_of_methodNamed Bd.named
  have hnm := (name_of_methodNamed Bd.named Bd.method).1
  have X0 : Stand p l e ({ frames := 1, cells := 1, slots := 6, locals := 12 } : Room) s m #[(.ref a1), (.int (6 : Int32))] below meth c s₁ [] 0 0 := Stand.of_body Bd
  have e0 : s₁.heap = h0 := by rw [← hh, Bd.state]; rfl
  have N0 := Fr.nil n0
  have K0 : Keep h0 h0 [a1] := Keep.refl h0 _
  show Goes p e below s ({ frames := 1, cells := 1, slots := 6, locals := 12 } : Room).cells ({ frames := 1, cells := 1, slots := 6, locals := 12 } : Room).slots (Q3 Z a1 G1 h0 n0) s₁ (entryFrame m #[(.ref a1), (.int (6 : Int32))] 2)
  refine Goes.step (fun t k => castTop (ef_3 m a1) k) ?_
  refine Goes.step (fun _ k => XS.aloadN X0.here hx rfl (hb hby d3_0) rfl rfl k) ?_
  show Goes p e below s _ _ _ s₁ (mkF m 1 #[.val (.ref a1), .val (.int (6 : Int32))] [(.ref a1)])
  obtain ⟨T1, X1, e1, st1⟩ := initO X0 hx hZ hown (hw _ (List.mem_of_getElem? (i := 17) rfl)) (hw _ (List.mem_of_getElem? (i := 18) rfl)) (hw _ (List.mem_of_getElem? (i := 19) rfl)) e0 (g := (mkF m 1 #[.val (.ref a1), .val (.int (6 : Int32))] [(.ref a1)])) rfl (by rw [hml]; rfl) rfl (hb hby d3_1) (by decide) (W := 0) (by show 2 * 0 + _ ≤ _; exact Nat.le_of_eq rfl) (by decide)
  refine Goes.step st1 ?_
  show Goes p e below s _ _ _ T1 (mkF m 4 #[.val (.ref a1), .val (.int (6 : Int32))] [])
  obtain ⟨T2, X2, e2, st2⟩ := getS2 X1 hx hZ hown (host := "") (Or.inl (hw _ (List.mem_of_getElem? (i := 20) rfl))) Via.refl e1 (O2.ext (OL.keep K0 (allS ge_a1 all0)).2) (g := (mkF m 4 #[.val (.ref a1), .val (.int (6 : Int32))] [])) rfl (hb hby d3_4)
  refine Goes.step st2 ?_
  show Goes p e below s _ _ _ T2 (mkF m 7 #[.val (.ref a1), .val (.int (6 : Int32))] [(.int G1)])
  refine Goes.step (fun _ k => XS.ifNo X2.here hx rfl (hb hby d3_7) rfl ((if0 _ _).trans (feq P3).1) k) ?_
  show Goes p e below s _ _ _ T2 (mkF m 10 #[.val (.ref a1), .val (.int (6 : Int32))] [])
  refine Goes.step (fun _ k => XS.aloadN X2.here hx rfl (hb hby d3_10) rfl rfl k) ?_
  show Goes p e below s _ _ _ T2 (mkF m 11 #[.val (.ref a1), .val (.int (6 : Int32))] [(.ref a1)])
  refine Goes.step (fun _ k => XS.iloadN X2.here hx rfl (hb hby d3_11) rfl k) ?_
  show Goes p e below s _ _ _ T2 (mkF m 12 #[.val (.ref a1), .val (.int (6 : Int32))] [(.int (6 : Int32)), (.ref a1)])
  obtain ⟨T3, h3, X3, e3, E3, A3, EA3, st3⟩ := newIE X2 hx hZ (hw _ (List.mem_of_getElem? (i := 22) rfl)) e2 (g := (mkF m 12 #[.val (.ref a1), .val (.int (6 : Int32))] [(.int (6 : Int32)), (.ref a1)])) rfl (hb hby d3_12) rfl (N := 6) rfl (cap := 6) (by decide) (by decide) (by decide) (by decide) rfl (by decide) (ad := "[B") (by decide)
  obtain ⟨b3, g_3⟩ : ∃ z, z = h0.size := ⟨_, rfl⟩
  rw [← g_3] at A3 EA3 st3
  refine Goes.step st3 ?_
  have ne_a1_b3 : a1 ≠ b3 := Nat.ne_of_lt (by rw [g_3]; exact E_a1_0.lt)
  have ge_b3 : n0 ≤ b3 := by rw [g_3]; exact Z0
  have sz_b3 : h0.size ≤ b3 := by rw [g_3]; exact K0.1
  have E_a1_3 := E_a1_0.ext E3
  have F_a1_value_3 := F_a1_value_0.ext E3
  have F_a1_coder_3 := F_a1_coder_0.ext E3
  have F_a1_count_3 := F_a1_count_0.ext E3
  have z_3 : n0 ≤ h3.size := Nat.le_trans Z0 E3.1
  have K_3 : Keep h0 h3 [a1] := K0.ext E3
  have E_b3_3 : Exa Z h3 b3 "[B" := EA3
  have A_b3_3 : Ari Z h3 b3 .byte (6) (fun _ => 0) := A3
  show Goes p e below s _ _ _ T3 (mkF m 14 #[.val (.ref a1), .val (.int (6 : Int32))] [(.ref b3), (.ref a1)])
  obtain ⟨T4, h4, X4, e4, W4, st4⟩ := putF X3 hx hZ hown (host := "") (Or.inl (hw _ (List.mem_of_getElem? (i := 23) rfl))) Via.refl e3 F_a1_value_3 E_a1_3 (Or.inl (hw _ (List.mem_of_getElem? (i := 24) rfl))) (hw _ (List.mem_of_getElem? (i := 6) rfl)) (ty := (.array .byte)) (by decide) rfl rfl (g := (mkF m 14 #[.val (.ref a1), .val (.int (6 : Int32))] [(.ref b3), (.ref a1)])) rfl rfl (hb hby d3_14)
  refine Goes.step st4 ?_
  have E_a1_4 := E_a1_3.wr W4
  have F_a1_coder_4 := F_a1_coder_3.other W4 (Or.inr (slot_ne (Or.inl (hw _ (List.mem_of_getElem? (i := 26) rfl))) (Or.inl (hw _ (List.mem_of_getElem? (i := 24) rfl))) (by decide) (t := .byte) (t' := (.array .byte)) (by decide) (by decide)))
  have F_a1_count_4 := F_a1_count_3.other W4 (Or.inr (slot_ne (Or.inl (hw _ (List.mem_of_getElem? (i := 57) rfl))) (Or.inl (hw _ (List.mem_of_getElem? (i := 24) rfl))) (by decide) (t := .int) (t' := (.array .byte)) (by decide) (by decide)))
  have E_b3_4 := E_b3_3.wr W4
  have A_b3_4 := A_b3_3.other W4 (Ne.symm ne_a1_b3)
  have z_4 : n0 ≤ h4.size := by rw [W4.size]; exact z_3
  have K_4 : Keep h0 h4 [a1] := K_3.wr W4 (Or.inl (List.mem_of_getElem? (i := 0) rfl))
  have N_4 := Fr.snoc X4 N0 ge_a1
  have F_a1_value_4 : Fld Z h4 a1 "java/lang/AbstractStringBuilder" "value" "[B" (.ref b3) := F_a1_value_3.same W4
  show Goes p e below s _ _ _ T4 (mkF m 17 #[.val (.ref a1), .val (.int (6 : Int32))] [])
  refine Goes.step (fun _ k => XS.aloadN X4.here hx rfl (hb hby d3_17) rfl rfl k) ?_
  show Goes p e below s _ _ _ T4 (mkF m 18 #[.val (.ref a1), .val (.int (6 : Int32))] [(.ref a1)])
  refine Goes.step (fun _ k => XS.iconst X4.here hx rfl (hb hby d3_18) k) ?_
  show Goes p e below s _ _ _ T4 (mkF m 19 #[.val (.ref a1), .val (.int (6 : Int32))] [(.int (0 : Int32)), (.ref a1)])
  obtain ⟨T5, h5, X5, e5, W5, st5⟩ := putF X4 hx hZ hown (host := "") (Or.inl (hw _ (List.mem_of_getElem? (i := 25) rfl))) Via.refl e4 F_a1_coder_4 E_a1_4 (Or.inl (hw _ (List.mem_of_getElem? (i := 26) rfl))) (hw _ (List.mem_of_getElem? (i := 6) rfl)) (ty := .byte) (by decide) rfl rfl (g := (mkF m 19 #[.val (.ref a1), .val (.int (6 : Int32))] [(.int (0 : Int32)), (.ref a1)])) rfl rfl (hb hby d3_19)
  refine Goes.step st5 ?_
  have E_a1_5 := E_a1_4.wr W5
  have F_a1_value_5 := F_a1_value_4.other W5 (Or.inr (slot_ne (Or.inl (hw _ (List.mem_of_getElem? (i := 24) rfl))) (Or.inl (hw _ (List.mem_of_getElem? (i := 26) rfl))) (by decide) (t := (.array .byte)) (t' := .byte) (by decide) (by decide)))
  have F_a1_count_5 := F_a1_count_4.other W5 (Or.inr (slot_ne (Or.inl (hw _ (List.mem_of_getElem? (i := 57) rfl))) (Or.inl (hw _ (List.mem_of_getElem? (i := 26) rfl))) (by decide) (t := .int) (t' := .byte) (by decide) (by decide)))
  have E_b3_5 := E_b3_4.wr W5
  have A_b3_5 := A_b3_4.other W5 (Ne.symm ne_a1_b3)
  have z_5 : n0 ≤ h5.size := by rw [W5.size]; exact z_4
  have K_5 : Keep h0 h5 [a1] := K_4.wr W5 (Or.inl (List.mem_of_getElem? (i := 0) rfl))
  have N_5 := Fr.snoc X5 N_4 ge_a1
  have F_a1_coder_5 : Fld Z h5 a1 "java/lang/AbstractStringBuilder" "coder" "B" (.int (0 : Int32)) := F_a1_coder_4.same W5
  show Goes p e below s _ _ _ T5 (mkF m 22 #[.val (.ref a1), .val (.int (6 : Int32))] [])
  refine Goes.step (fun _ k => XS.goto X5.here hx rfl (pc0 := 22) (pc' := 38) rfl (hb hby d3_22) (by decide) (by decide) k) ?_
  show Goes p e below s _ _ _ T5 (mkF m 38 #[.val (.ref a1), .val (.int (6 : Int32))] [])
  exact Goes.outV X5 hx hlk Bd.returns (hb hby d3_38) (by rw [e5]; exact ⟨rfl, N_5, K_5, b3, sz_b3, E_a1_5, F_a1_value_5, F_a1_coder_5, F_a1_count_5, A_b3_5, E_b3_5⟩) (by decide) (by decide)
theorem d2_0 : decode jdk_67_method_2_code 0 = .ok (.aload_n 0, 1) := by decide +kernel
theorem d2_1 : decode jdk_67_method_2_code 1 = .ok (.iload_n 1, 1) := by decide +kernel
theorem d2_2 : decode jdk_67_method_2_code 2 = .ok (.invokespecial 1, 3) := by decide +kernel
theorem d2_5 : decode jdk_67_method_2_code 5 = .ok (.return_, 1) := by decide +kernel
theorem pn_2 : plainName "java/lang/StringBuilder" = true := by first | (simp [plainName, overriddenIn]; done) | decide +kernel
theorem pd_2_0 : parseMethodDescriptor "(I)V" = some ⟨[.int], none⟩ := by decide +kernel
theorem ef_2 (m : MethodId) (a1 : Addr) : entryFrame m #[(.ref a1), (.int (6 : Int32))] 2 = mkF m 0 #[.val (.ref a1), .val (.int (6 : Int32))] [] := by first | (simp [entryFrame, mkF, argsToLocals, Value.category]; done) | rfl
def Q2 (Z : State) (a1 : Addr) (G1 : Int32) (h0 : Heap) (n0 : Nat) (v : Option Value) (h : Heap) (L : List Loc) : Prop := v = none ∧ Fr n0 L ∧ Keep h0 h [a1] ∧ ∃ o, h0.size ≤ o ∧ Exa Z h a1 "java/lang/StringBuilder" ∧ Fld Z h a1 "java/lang/AbstractStringBuilder" "value" "[B" (.ref o) ∧ Fld Z h a1 "java/lang/AbstractStringBuilder" "coder" "B" (.int (0 : Int32)) ∧ Fld Z h a1 "java/lang/AbstractStringBuilder" "count" "I" (.int (0 : Int32)) ∧ Ari Z h o .byte 6 (fun _ => 0) ∧ Exa Z h o "[B"
set_option maxRecDepth 65536 in
set_option maxHeartbeats 40000000 in
theorem rm2 (l : Launch) (Z : State) (a0 : Array Value) (hw : ∀ d ∈ tables_1, d.before a0 Z = true) (ws : List Jvm.Cond) (a1 : Addr) (G1 : Int32) (h0 : Heap) (n0 : Nat) (Z0 : n0 ≤ h0.size) (O2 : Sta Z Z.heap "java/lang/String" "COMPACT_STRINGS" "Z" (.int G1)) (P3 : ¬ (G1 = (0 : Int32))) (OL : Old Z n0 h0) (E_a1_0 : Exa Z h0 a1 "java/lang/StringBuilder") (F_a1_value_0 : Fld Z h0 a1 "java/lang/AbstractStringBuilder" "value" "[B" .null) (F_a1_coder_0 : Fld Z h0 a1 "java/lang/AbstractStringBuilder" "coder" "B" (.int (0 : Int32))) (F_a1_count_0 : Fld Z h0 a1 "java/lang/AbstractStringBuilder" "count" "I" (.int (0 : Int32))) (ge_a1 : n0 ≤ a1) :
    MetFree l (⟨"java/lang/StringBuilder", "<init>", "(I)V"⟩ : MethodName) (head1 (Jvm.Cond.code (⟨"java/lang/StringBuilder", "<init>", "(I)V"⟩ : MethodName) jdk_67_method_2_code 2 none :: ws) ({ frames := 2, cells := 1, slots := 6, locals := 25 } : Room)) (fun a U => a = #[(.ref a1), (.int (6 : Int32))] ∧ Z.Warmed39 U.vm ∧ U.heap = h0) (fun _ _ _ _ _ => True) (fun _ U o U' => ∃ v L, o = .returned v ∧ Q2 Z a1 G1 h0 n0 v U'.heap L ∧ FrameEnd U o U' L ({ frames := 2, cells := 1, slots := 6, locals := 25 } : Room).cells ({ frames := 2, cells := 1, slots := 6, locals := 25 } : Room).slots) := by
  refine MetFree.of_bodySF (plainFor_of_name pn_2) hisR ?_
  intro p e s m args below meth c s₁ Bd hml0 hP hK
  obtain ⟨rfl, hZ, hh⟩ := hP
  have hx := Bd.exec
  have hby := Bd.bytes
  have hlk := Bd.notSynchronized
  have hml : c.maxLocals = 2 := hml0
  have hown : s.vm.findClass "java/lang/StringBuilder" = some m.cls := findClass_of_methodNamed Bd.named
  have hnm := (name_of_methodNamed Bd.named Bd.method).1
  have X0 : Stand p l e ({ frames := 2, cells := 1, slots := 6, locals := 25 } : Room) s m #[(.ref a1), (.int (6 : Int32))] below meth c s₁ [] 0 0 := Stand.of_body Bd
  have e0 : s₁.heap = h0 := by rw [← hh, Bd.state]; rfl
  have N0 := Fr.nil n0
  have K0 : Keep h0 h0 [a1] := Keep.refl h0 _
  show Goes p e below s ({ frames := 2, cells := 1, slots := 6, locals := 25 } : Room).cells ({ frames := 2, cells := 1, slots := 6, locals := 25 } : Room).slots (Q2 Z a1 G1 h0 n0) s₁ (entryFrame m #[(.ref a1), (.int (6 : Int32))] 2)
  refine Goes.step (fun t k => castTop (ef_2 m a1) k) ?_
  refine Goes.step (fun _ k => XS.aloadN X0.here hx rfl (hb hby d2_0) rfl rfl k) ?_
  show Goes p e below s _ _ _ s₁ (mkF m 1 #[.val (.ref a1), .val (.int (6 : Int32))] [(.ref a1)])
  refine Goes.step (fun _ k => XS.iloadN X0.here hx rfl (hb hby d2_1) rfl k) ?_
  show Goes p e below s _ _ _ s₁ (mkF m 2 #[.val (.ref a1), .val (.int (6 : Int32))] [(.int (6 : Int32)), (.ref a1)])
  obtain ⟨v1, T1, h1, L1, X1, e1, Q1, st1⟩ := callXI X0 hx hZ (b := a1) (y := (⟨"java/lang/AbstractStringBuilder", "<init>", "(I)V"⟩ : MethodName)) hown rfl (hw _ (List.mem_of_getElem? (i := 11) rfl)) (hw _ (List.mem_of_getElem? (i := 12) rfl)) (hw _ (List.mem_of_getElem? (i := 16) rfl)) (hw _ (List.mem_of_getElem? (i := 15) rfl)) (by decide) (W := 0) (argsL := [(.int (6 : Int32))]) (rest := []) (rm3 l Z a0 hw [] a1 G1 h0 n0 Z0 O2 P3 (OL.keep K0 (allS ge_a1 all0)) E_a1_0 F_a1_value_0 F_a1_coder_0 F_a1_count_0 ge_a1) (by decide) (by decide) (by decide) (by decide) e0 (g := (mkF m 2 #[.val (.ref a1), .val (.int (6 : Int32))] [(.int (6 : Int32)), (.ref a1)])) rfl (by rw [hml]; rfl) (lenOf pd_2_0 rfl) rfl (by show 2 * 0 + _ ≤ _; exact Nat.le_of_eq rfl) (hb hby d2_2)
  obtain ⟨rfl, NQ1, KQ1, o1, so1, hE1, hV1, hC1, hN1, hA1, hB1⟩ := Q1
  refine Goes.step st1 ?_
  have E_a1_1 := E_a1_0.keep KQ1
  have z_1 : n0 ≤ h1.size := Nat.le_trans Z0 KQ1.1
  have K_1 : Keep h0 h1 [a1] := Keep.trans K0 KQ1 (allS (Or.inl (List.mem_of_getElem? (i := 0) rfl)) all0)
  have N_1 := Fr.app N0 NQ1
  have ne_a1_o1 : a1 ≠ o1 := Nat.ne_of_lt (Nat.lt_of_lt_of_le E_a1_0.lt so1)
  have ge_o1 : n0 ≤ o1 := Nat.le_trans Z0 so1
  have sz_o1 : h0.size ≤ o1 := Nat.le_trans K0.1 so1
  show Goes p e below s _ _ _ T1 (mkF m 5 #[.val (.ref a1), .val (.int (6 : Int32))] [])
  exact Goes.outV X1 hx hlk Bd.returns (hb hby d2_5) (by rw [e1]; exact ⟨rfl, N_1, K_1, o1, sz_o1, hE1, hV1, hC1, hN1, hA1, hB1⟩) (by decide) (by decide)
theorem d9_0 : decode jdk_68_method_9_code 0 = .ok (.aload_n 0, 1) := by decide +kernel
theorem d9_1 : decode jdk_68_method_9_code 1 = .ok (.getfield 15, 3) := by decide +kernel
theorem d9_4 : decode jdk_68_method_9_code 4 = .ok (.arraylength, 1) := by decide +kernel
theorem d9_5 : decode jdk_68_method_9_code 5 = .ok (.aload_n 0, 1) := by decide +kernel
theorem d9_6 : decode jdk_68_method_9_code 6 = .ok (.getfield 22, 3) := by decide +kernel
theorem d9_9 : decode jdk_68_method_9_code 9 = .ok (.ishr, 1) := by decide +kernel
theorem d9_10 : decode jdk_68_method_9_code 10 = .ok (.istore_n 2, 1) := by decide +kernel
theorem d9_11 : decode jdk_68_method_9_code 11 = .ok (.iload_n 1, 1) := by decide +kernel
theorem d9_12 : decode jdk_68_method_9_code 12 = .ok (.iload_n 2, 1) := by decide +kernel
theorem d9_13 : decode jdk_68_method_9_code 13 = .ok (.isub, 1) := by decide +kernel
theorem d9_14 : decode jdk_68_method_9_code 14 = .ok (.ifCond .le 24, 3) := by decide +kernel
theorem d9_38 : decode jdk_68_method_9_code 38 = .ok (.return_, 1) := by decide +kernel
theorem pn_9 : plainName "java/lang/AbstractStringBuilder" = true := by first | (simp [plainName, overriddenIn]; done) | decide +kernel
theorem ef_9 (m : MethodId) (a1 : Addr) (p2 : Int32) : entryFrame m #[(.ref a1), (.int p2)] 3 = mkF m 0 #[.val (.ref a1), .val (.int p2), .unset] [] := by first | (simp [entryFrame, mkF, argsToLocals, Value.category]; done) | rfl
def Q9 (Z : State) (a1 : Addr) (p2 : Int32) (bv : Addr) (f : Nat → Int32) (h0 : Heap) (n0 : Nat) (v : Option Value) (h : Heap) (L : List Loc) : Prop := PQ h0 none v h L
set_option maxRecDepth 65536 in
set_option maxHeartbeats 40000000 in
theorem rm9 (l : Launch) (Z : State) (a0 : Array Value) (hw : ∀ d ∈ tables_1, d.before a0 Z = true) (ws : List Jvm.Cond) (a1 : Addr) (p2 : Int32) (bv : Addr) (f : Nat → Int32) (h0 : Heap) (n0 : Nat) (Z0 : n0 ≤ h0.size) (F_a1_value_0 : Fld Z h0 a1 "java/lang/AbstractStringBuilder" "value" "[B" (.ref bv)) (F_a1_coder_0 : Fld Z h0 a1 "java/lang/AbstractStringBuilder" "coder" "B" (.int (0 : Int32))) (A_bv_0 : Ari Z h0 bv .byte 6 f) (hcap : ¬ ((0 : Int32) < p2 - Int32.ofNat 6)) :
    MetFree l (⟨"java/lang/AbstractStringBuilder", "ensureCapacityInternal", "(I)V"⟩ : MethodName) (head1 (Jvm.Cond.code (⟨"java/lang/AbstractStringBuilder", "ensureCapacityInternal", "(I)V"⟩ : MethodName) jdk_68_method_9_code 3 none :: ws) ({ frames := 0, cells := 0, slots := 0, locals := 0 } : Room)) (fun a U => a = #[(.ref a1), (.int p2)] ∧ Z.Warmed39 U.vm ∧ U.heap = h0) (fun _ _ _ _ _ => True) (fun _ U o U' => ∃ v L, o = .returned v ∧ Q9 Z a1 p2 bv f h0 n0 v U'.heap L ∧ FrameEnd U o U' L ({ frames := 0, cells := 0, slots := 0, locals := 0 } : Room).cells ({ frames := 0, cells := 0, slots := 0, locals := 0 } : Room).slots) := by
  refine MetFree.of_bodySF (plainFor_of_name pn_9) hisR ?_
  intro p e s m args below meth c s₁ Bd hml0 hP hK
  obtain ⟨rfl, hZ, hh⟩ := hP
  have hx := Bd.exec
  have hby := Bd.bytes
  have hlk := Bd.notSynchronized
  have hml : c.maxLocals = 3 := hml0
  have hown : s.vm.findClass "java/lang/AbstractStringBuilder" = some m.cls := findClass_of_methodNamed Bd.named
  have hnm := (name_of_methodNamed Bd.named Bd.method).1
  have X0 : Stand p l e ({ frames := 0, cells := 0, slots := 0, locals := 0 } : Room) s m #[(.ref a1), (.int p2)] below meth c s₁ [] 0 0 := Stand.of_body Bd
  have e0 : s₁.heap = h0 := by rw [← hh, Bd.state]; rfl
  have N0 := Fr.nil n0
  have K0 : Keep h0 h0 [] := Keep.refl h0 _
  show Goes p e below s ({ frames := 0, cells := 0, slots := 0, locals := 0 } : Room).cells ({ frames := 0, cells := 0, slots := 0, locals := 0 } : Room).slots (Q9 Z a1 p2 bv f h0 n0) s₁ (entryFrame m #[(.ref a1), (.int p2)] 3)
  refine Goes.step (fun t k => castTop (ef_9 m a1 p2) k) ?_
  refine Goes.step (fun _ k => XS.aloadN X0.here hx rfl (hb hby d9_0) rfl rfl k) ?_
  show Goes p e below s _ _ _ s₁ (mkF m 1 #[.val (.ref a1), .val (.int p2), .unset] [(.ref a1)])
  obtain ⟨T1, X1, e1, st1⟩ := getF X0 hx hZ hown (host := "") (Or.inl (hw _ (List.mem_of_getElem? (i := 23) rfl))) Via.refl e0 F_a1_value_0 (g := (mkF m 1 #[.val (.ref a1), .val (.int p2), .unset] [(.ref a1)])) rfl rfl (hb hby d9_1)
  refine Goes.step st1 ?_
  show Goes p e below s _ _ _ T1 (mkF m 4 #[.val (.ref a1), .val (.int p2), .unset] [(.ref bv)])
  refine Goes.step (fun _ k => rdL X1 hx hZ e1 A_bv_0 (g := (mkF m 4 #[.val (.ref a1), .val (.int p2), .unset] [(.ref bv)])) rfl rfl (hb hby d9_4) _ k) ?_
  show Goes p e below s _ _ _ T1 (mkF m 5 #[.val (.ref a1), .val (.int p2), .unset] [(.int (Int32.ofNat 6))])
  refine Goes.step (fun _ k => XS.aloadN X1.here hx rfl (hb hby d9_5) rfl rfl k) ?_
  show Goes p e below s _ _ _ T1 (mkF m 6 #[.val (.ref a1), .val (.int p2), .unset] [(.ref a1), (.int (Int32.ofNat 6))])
  obtain ⟨T2, X2, e2, st2⟩ := getF X1 hx hZ hown (host := "") (Or.inl (hw _ (List.mem_of_getElem? (i := 25) rfl))) Via.refl e1 F_a1_coder_0 (g := (mkF m 6 #[.val (.ref a1), .val (.int p2), .unset] [(.ref a1), (.int (Int32.ofNat 6))])) rfl rfl (hb hby d9_6)
  refine Goes.step st2 ?_
  show Goes p e below s _ _ _ T2 (mkF m 9 #[.val (.ref a1), .val (.int p2), .unset] [(.int (0 : Int32)), (.int (Int32.ofNat 6))])
  refine Goes.step (fun _ k => XS.ishr X2.here hx rfl (hb hby d9_9) rfl k) ?_
  show Goes p e below s _ _ _ T2 (mkF m 10 #[.val (.ref a1), .val (.int p2), .unset] [(.int ((Int32.ofNat 6) >>> ((0 : Int32) &&& 31)))])
  refine Goes.step (fun _ k => XS.istoreN X2.here hx rfl (hb hby d9_10) rfl (l' := #[.val (.ref a1), .val (.int p2), .val (.int ((Int32.ofNat 6) >>> ((0 : Int32) &&& 31)))]) rfl k) ?_
  show Goes p e below s _ _ _ T2 (mkF m 11 #[.val (.ref a1), .val (.int p2), .val (.int ((Int32.ofNat 6) >>> ((0 : Int32) &&& 31)))] [])
  refine Goes.step (fun _ k => XS.iloadN X2.here hx rfl (hb hby d9_11) rfl k) ?_
  show Goes p e below s _ _ _ T2 (mkF m 12 #[.val (.ref a1), .val (.int p2), .val (.int ((Int32.ofNat 6) >>> ((0 : Int32) &&& 31)))] [(.int p2)])
  refine Goes.step (fun _ k => XS.iloadN X2.here hx rfl (hb hby d9_12) rfl k) ?_
  show Goes p e below s _ _ _ T2 (mkF m 13 #[.val (.ref a1), .val (.int p2), .val (.int ((Int32.ofNat 6) >>> ((0 : Int32) &&& 31)))] [(.int ((Int32.ofNat 6) >>> ((0 : Int32) &&& 31))), (.int p2)])
  refine Goes.step (fun _ k => XS.isub X2.here hx rfl (hb hby d9_13) rfl k) ?_
  show Goes p e below s _ _ _ T2 (mkF m 14 #[.val (.ref a1), .val (.int p2), .val (.int ((Int32.ofNat 6) >>> ((0 : Int32) &&& 31)))] [(.int (p2 - ((Int32.ofNat 6) >>> ((0 : Int32) &&& 31))))])
  refine Goes.step (fun _ k => XS.ifYes X2.here hx rfl (pc0 := 14) (pc' := 38) rfl (hb hby d9_14) rfl ((if0 _ _).trans (flt (own_capS hcap)).2.2.2) (by decide) (by decide) k) ?_
  show Goes p e below s _ _ _ T2 (mkF m 38 #[.val (.ref a1), .val (.int p2), .val (.int ((Int32.ofNat 6) >>> ((0 : Int32) &&& 31)))] [])
  exact Goes.outV X2 hx hlk Bd.returns (hb hby d9_38) (by rw [e2]; exact ⟨rfl, rfl, rfl⟩) (by decide) (by decide)
theorem d11_0 : decode jdk_68_method_71_code 0 = .ok (.getstatic 18, 3) := by decide +kernel
theorem d11_3 : decode jdk_68_method_71_code 3 = .ok (.ifCond .eq 18, 3) := by decide +kernel
theorem d11_6 : decode jdk_68_method_71_code 6 = .ok (.aload_n 0, 1) := by decide +kernel
theorem d11_7 : decode jdk_68_method_71_code 7 = .ok (.getfield 22, 3) := by decide +kernel
theorem d11_10 : decode jdk_68_method_71_code 10 = .ok (.aload_n 1, 1) := by decide +kernel
theorem d11_11 : decode jdk_68_method_71_code 11 = .ok (.invokevirtual 40, 3) := by decide +kernel
theorem d11_14 : decode jdk_68_method_71_code 14 = .ok (.if_icmp .eq 7, 3) := by decide +kernel
theorem d11_21 : decode jdk_68_method_71_code 21 = .ok (.return_, 1) := by decide +kernel
theorem pn_11 : plainName "java/lang/AbstractStringBuilder" = true := by first | (simp [plainName, overriddenIn]; done) | decide +kernel
theorem pd_11_0 : parseMethodDescriptor "()B" = some ⟨[], some .byte⟩ := by decide +kernel
theorem ef_11 (m : MethodId) (a1 : Addr) (a2 : Addr) : entryFrame m #[(.ref a1), (.ref a2)] 2 = mkF m 0 #[.val (.ref a1), .val (.ref a2)] [] := by first | (simp [entryFrame, mkF, argsToLocals, Value.category]; done) | rfl
def Q11 (Z : State) (a1 : Addr) (a2 : Addr) (G1 : Int32) (h0 : Heap) (n0 : Nat) (v : Option Value) (h : Heap) (L : List Loc) : Prop := PQ h0 none v h L
set_option maxRecDepth 65536 in
set_option maxHeartbeats 40000000 in
theorem rm11 (l : Launch) (Z : State) (a0 : Array Value) (hw : ∀ d ∈ tables_1, d.before a0 Z = true) (ws : List Jvm.Cond) (a1 : Addr) (a2 : Addr) (G1 : Int32) (h0 : Heap) (n0 : Nat) (Z0 : n0 ≤ h0.size) (O2 : Sta Z Z.heap "java/lang/String" "COMPACT_STRINGS" "Z" (.int G1)) (P3 : ¬ (G1 = (0 : Int32))) (OL : Old Z n0 h0) (F_a1_coder_0 : Fld Z h0 a1 "java/lang/AbstractStringBuilder" "coder" "B" (.int (0 : Int32))) (E_a2_0 : Exa Z h0 a2 "java/lang/String") (F_a2_coder_0 : Fld Z h0 a2 "java/lang/String" "coder" "B" (.int (0 : Int32))) :
    MetFree l (⟨"java/lang/AbstractStringBuilder", "inflateIfNeededFor", "(Ljava/lang/String;)V"⟩ : MethodName) (head1 (Jvm.Cond.code (⟨"java/lang/AbstractStringBuilder", "inflateIfNeededFor", "(Ljava/lang/String;)V"⟩ : MethodName) jdk_68_method_71_code 2 none :: ws) ({ frames := 1, cells := 0, slots := 0, locals := 13 } : Room)) (fun a U => a = #[(.ref a1), (.ref a2)] ∧ Z.Warmed39 U.vm ∧ U.heap = h0) (fun _ _ _ _ _ => True) (fun _ U o U' => ∃ v L, o = .returned v ∧ Q11 Z a1 a2 G1 h0 n0 v U'.heap L ∧ FrameEnd U o U' L ({ frames := 1, cells := 0, slots := 0, locals := 13 } : Room).cells ({ frames := 1, cells := 0, slots := 0, locals := 13 } : Room).slots) := by
  refine MetFree.of_bodySF (plainFor_of_name pn_11) hisR ?_
  intro p e s m args below meth c s₁ Bd hml0 hP hK
  obtain ⟨rfl, hZ, hh⟩ := hP
  have hx := Bd.exec
  have hby := Bd.bytes
  have hlk := Bd.notSynchronized
  have hml : c.maxLocals = 2 := hml0
  have hown : s.vm.findClass "java/lang/AbstractStringBuilder" = some m.cls := findClass_of_methodNamed Bd.named
  have hnm := (name_of_methodNamed Bd.named Bd.method).1
  have X0 : Stand p l e ({ frames := 1, cells := 0, slots := 0, locals := 13 } : Room) s m #[(.ref a1), (.ref a2)] below meth c s₁ [] 0 0 := Stand.of_body Bd
  have e0 : s₁.heap = h0 := by rw [← hh, Bd.state]; rfl
  have N0 := Fr.nil n0
  have K0 : Keep h0 h0 [] := Keep.refl h0 _
  show Goes p e below s ({ frames := 1, cells := 0, slots := 0, locals := 13 } : Room).cells ({ frames := 1, cells := 0, slots := 0, locals := 13 } : Room).slots (Q11 Z a1 a2 G1 h0 n0) s₁ (entryFrame m #[(.ref a1), (.ref a2)] 2)
  refine Goes.step (fun t k => castTop (ef_11 m a1 a2) k) ?_
  obtain ⟨T1, X1, e1, st1⟩ := getS2 X0 hx hZ hown (host := "") (Or.inl (hw _ (List.mem_of_getElem? (i := 20) rfl))) Via.refl e0 (O2.ext (OL.keep K0 all0).2) (g := (mkF m 0 #[.val (.ref a1), .val (.ref a2)] [])) rfl (hb hby d11_0)
  refine Goes.step st1 ?_
  show Goes p e below s _ _ _ T1 (mkF m 3 #[.val (.ref a1), .val (.ref a2)] [(.int G1)])
  refine Goes.step (fun _ k => XS.ifNo X1.here hx rfl (hb hby d11_3) rfl ((if0 _ _).trans (feq P3).1) k) ?_
  show Goes p e below s _ _ _ T1 (mkF m 6 #[.val (.ref a1), .val (.ref a2)] [])
  refine Goes.step (fun _ k => XS.aloadN X1.here hx rfl (hb hby d11_6) rfl rfl k) ?_
  show Goes p e below s _ _ _ T1 (mkF m 7 #[.val (.ref a1), .val (.ref a2)] [(.ref a1)])
  obtain ⟨T2, X2, e2, st2⟩ := getF X1 hx hZ hown (host := "") (Or.inl (hw _ (List.mem_of_getElem? (i := 25) rfl))) Via.refl e1 F_a1_coder_0 (g := (mkF m 7 #[.val (.ref a1), .val (.ref a2)] [(.ref a1)])) rfl rfl (hb hby d11_7)
  refine Goes.step st2 ?_
  show Goes p e below s _ _ _ T2 (mkF m 10 #[.val (.ref a1), .val (.ref a2)] [(.int (0 : Int32))])
  refine Goes.step (fun _ k => XS.aloadN X2.here hx rfl (hb hby d11_10) rfl rfl k) ?_
  show Goes p e below s _ _ _ T2 (mkF m 11 #[.val (.ref a1), .val (.ref a2)] [(.ref a2), (.int (0 : Int32))])
  obtain ⟨T3, X3, e3, st3⟩ := own_pure (r := some (.int (0 : Int32))) (fun _ _ _ q => q) (callXV X2 hx hZ (C := "java/lang/String") (b := a2) (y := (⟨"java/lang/String", "coder", "()B"⟩ : MethodName)) (z := (⟨"java/lang/String", "coder", "()B"⟩ : MethodName)) hown (hw _ (List.mem_of_getElem? (i := 73) rfl)) (hw _ (List.mem_of_getElem? (i := 50) rfl)) (hw _ (List.mem_of_getElem? (i := 52) rfl)) (hw _ (List.mem_of_getElem? (i := 51) rfl)) (hw _ (List.mem_of_getElem? (i := 53) rfl)) (hw _ (List.mem_of_getElem? (i := 21) rfl)) (notFace_of_selects (args := #[]) (mvT hZ (hw _ (List.mem_of_getElem? (i := 52) rfl)))) (by decide) (W := 1) (argsL := []) (rest := [(.int (0 : Int32))]) (rm8 l Z a0 hw [] a2 G1 h0 n0 Z0 O2 P3 (OL.keep K0 all0) F_a2_coder_0) (by decide) (by decide) (by decide) (by decide) e2 E_a2_0 (g := (mkF m 11 #[.val (.ref a1), .val (.ref a2)] [(.ref a2), (.int (0 : Int32))])) rfl (by rw [hml]; rfl) (lenOf pd_11_0 rfl) rfl (by show 2 * 0 + _ ≤ _; exact Nat.le_of_eq rfl) (hb hby d11_11))
  refine Goes.step st3 ?_
  show Goes p e below s _ _ _ T3 (mkF m 14 #[.val (.ref a1), .val (.ref a2)] [(.int (0 : Int32)), (.int (0 : Int32))])
  refine Goes.step (fun _ k => XS.icmpYes X3.here hx rfl (pc0 := 14) (pc' := 21) rfl (hb hby d11_14) rfl (teq (by decide : (0 : Int32) = (0 : Int32))).1 (by decide) (by decide) k) ?_
  show Goes p e below s _ _ _ T3 (mkF m 21 #[.val (.ref a1), .val (.ref a2)] [])
  exact Goes.outV X3 hx hlk Bd.returns (hb hby d11_21) (by rw [e3]; exact ⟨rfl, rfl, rfl⟩) (by decide) (by decide)
theorem d10_0 : decode jdk_68_method_73_code 0 = .ok (.aload_n 0, 1) := by decide +kernel
theorem d10_1 : decode jdk_68_method_73_code 1 = .ok (.aload_n 2, 1) := by decide +kernel
theorem d10_2 : decode jdk_68_method_73_code 2 = .ok (.invokevirtual 397, 3) := by decide +kernel
theorem d10_5 : decode jdk_68_method_73_code 5 = .ok (.aload_n 2, 1) := by decide +kernel
theorem d10_6 : decode jdk_68_method_73_code 6 = .ok (.aload_n 0, 1) := by decide +kernel
theorem d10_7 : decode jdk_68_method_73_code 7 = .ok (.getfield 15, 3) := by decide +kernel
theorem d10_10 : decode jdk_68_method_73_code 10 = .ok (.iload_n 1, 1) := by decide +kernel
theorem d10_11 : decode jdk_68_method_73_code 11 = .ok (.aload_n 0, 1) := by decide +kernel
theorem d10_12 : decode jdk_68_method_73_code 12 = .ok (.getfield 22, 3) := by decide +kernel
theorem d10_15 : decode jdk_68_method_73_code 15 = .ok (.invokevirtual 399, 3) := by decide +kernel
theorem d10_18 : decode jdk_68_method_73_code 18 = .ok (.return_, 1) := by decide +kernel
theorem pn_10 : plainName "java/lang/AbstractStringBuilder" = true := by first | (simp [plainName, overriddenIn]; done) | decide +kernel
theorem pd_10_0 : parseMethodDescriptor "(Ljava/lang/String;)V" = some ⟨[(.object "java/lang/String")], none⟩ := by decide +kernel
theorem pd_10_1 : parseMethodDescriptor "([BIB)V" = some ⟨[(.array .byte), .int, .byte], none⟩ := by decide +kernel
theorem ef_10 (m : MethodId) (a1 : Addr) (a3 : Addr) : entryFrame m #[(.ref a1), (.int (0 : Int32)), (.ref a3)] 3 = mkF m 0 #[.val (.ref a1), .val (.int (0 : Int32)), .val (.ref a3)] [] := by first | (simp [entryFrame, mkF, argsToLocals, Value.category]; done) | rfl
def Q10 (Z : State) (a1 : Addr) (a3 : Addr) (G1 : Int32) (bv : Addr) (av : Addr) (n : Nat) (f : Nat → Int32) (g : Nat → Int32) (h0 : Heap) (n0 : Nat) (v : Option Value) (h : Heap) (L : List Loc) : Prop := v = none ∧ Fr n0 L ∧ Keep h0 h [bv] ∧ Ari Z h bv .byte 6 (blit f g 0 0 n)
set_option maxRecDepth 65536 in
set_option maxHeartbeats 40000000 in
theorem rm10 (l : Launch) (Z : State) (a0 : Array Value) (hw : ∀ d ∈ tables_1, d.before a0 Z = true) (ws : List Jvm.Cond) (a1 : Addr) (a3 : Addr) (G1 : Int32) (bv : Addr) (av : Addr) (n : Nat) (f : Nat → Int32) (g : Nat → Int32) (h0 : Heap) (n0 : Nat) (Z0 : n0 ≤ h0.size) (O2 : Sta Z Z.heap "java/lang/String" "COMPACT_STRINGS" "Z" (.int G1)) (P3 : ¬ (G1 = (0 : Int32))) (OL : Old Z n0 h0) (E_a1_0 : Exa Z h0 a1 "java/lang/StringBuilder") (F_a1_value_0 : Fld Z h0 a1 "java/lang/AbstractStringBuilder" "value" "[B" (.ref bv)) (F_a1_coder_0 : Fld Z h0 a1 "java/lang/AbstractStringBuilder" "coder" "B" (.int (0 : Int32))) (F_a1_count_0 : Fld Z h0 a1 "java/lang/AbstractStringBuilder" "count" "I" (.int (0 : Int32))) (A_bv_0 : Ari Z h0 bv .byte 6 g) (E_bv_0 : Exa Z h0 bv "[B") (E_a3_0 : Exa Z h0 a3 "java/lang/String") (F_a3_value_0 : Fld Z h0 a3 "java/lang/String" "value" "[B" (.ref av)) (F_a3_coder_0 : Fld Z h0 a3 "java/lang/String" "coder" "B" (.int (0 : Int32))) (A_av_0 : Ari Z h0 av .byte n f) (hn6 : n ≤ 6) (ge_bv : n0 ≤ bv) :
    MetFree l (⟨"java/lang/AbstractStringBuilder", "putStringAt", "(ILjava/lang/String;)V"⟩ : MethodName) (head1 (Jvm.Cond.code (⟨"java/lang/AbstractStringBuilder", "putStringAt", "(ILjava/lang/String;)V"⟩ : MethodName) jdk_68_method_73_code 3 none :: ws) ({ frames := 2, cells := 0, slots := 0, locals := 42 } : Room)) (fun a U => a = #[(.ref a1), (.int (0 : Int32)), (.ref a3)] ∧ Z.Warmed39 U.vm ∧ U.heap = h0) (fun _ _ _ _ _ => True) (fun _ U o U' => ∃ v L, o = .returned v ∧ Q10 Z a1 a3 G1 bv av n f g h0 n0 v U'.heap L ∧ FrameEnd U o U' L ({ frames := 2, cells := 0, slots := 0, locals := 42 } : Room).cells ({ frames := 2, cells := 0, slots := 0, locals := 42 } : Room).slots) := by
  refine MetFree.of_bodySF (plainFor_of_name pn_10) hisR ?_
  intro p e s m args below meth c s₁ Bd hml0 hP hK
  obtain ⟨rfl, hZ, hh⟩ := hP
  have hx := Bd.exec
  have hby := Bd.bytes
  have hlk := Bd.notSynchronized
  have hml : c.maxLocals = 3 := hml0
  have hown : s.vm.findClass "java/lang/AbstractStringBuilder" = some m.cls := findClass_of_methodNamed Bd.named
  have hnm := (name_of_methodNamed Bd.named Bd.method).1
  have X0 : Stand p l e ({ frames := 2, cells := 0, slots := 0, locals := 42 } : Room) s m #[(.ref a1), (.int (0 : Int32)), (.ref a3)] below meth c s₁ [] 0 0 := Stand.of_body Bd
  have e0 : s₁.heap = h0 := by rw [← hh, Bd.state]; rfl
  have N0 := Fr.nil n0
  have K0 : Keep h0 h0 [bv] := Keep.refl h0 _
  show Goes p e below s ({ frames := 2, cells := 0, slots := 0, locals := 42 } : Room).cells ({ frames := 2, cells := 0, slots := 0, locals := 42 } : Room).slots (Q10 Z a1 a3 G1 bv av n f g h0 n0) s₁ (entryFrame m #[(.ref a1), (.int (0 : Int32)), (.ref a3)] 3)
  refine Goes.step (fun t k => castTop (ef_10 m a1 a3) k) ?_
  refine Goes.step (fun _ k => XS.aloadN X0.here hx rfl (hb hby d10_0) rfl rfl k) ?_
  show Goes p e below s _ _ _ s₁ (mkF m 1 #[.val (.ref a1), .val (.int (0 : Int32)), .val (.ref a3)] [(.ref a1)])
  refine Goes.step (fun _ k => XS.aloadN X0.here hx rfl (hb hby d10_1) rfl rfl k) ?_
  show Goes p e below s _ _ _ s₁ (mkF m 2 #[.val (.ref a1), .val (.int (0 : Int32)), .val (.ref a3)] [(.ref a3), (.ref a1)])
  obtain ⟨T1, X1, e1, st1⟩ := own_pure (r := none) (fun _ _ _ q => q) (callXV X0 hx hZ (C := "java/lang/StringBuilder") (b := a1) (y := (⟨"java/lang/AbstractStringBuilder", "inflateIfNeededFor", "(Ljava/lang/String;)V"⟩ : MethodName)) (z := (⟨"java/lang/AbstractStringBuilder", "inflateIfNeededFor", "(Ljava/lang/String;)V"⟩ : MethodName)) hown (hw _ (List.mem_of_getElem? (i := 68) rfl)) (own_declares (hw _ (List.mem_of_getElem? (i := 69) rfl)) (hw _ (List.mem_of_getElem? (i := 72) rfl))) (hw _ (List.mem_of_getElem? (i := 71) rfl)) (hw _ (List.mem_of_getElem? (i := 69) rfl)) (hw _ (List.mem_of_getElem? (i := 72) rfl)) (hw _ (List.mem_of_getElem? (i := 15) rfl)) (notFace_of_selects (args := #[]) (mvT hZ (hw _ (List.mem_of_getElem? (i := 71) rfl)))) (by decide) (W := 0) (argsL := [(.ref a3)]) (rest := []) (rm11 l Z a0 hw [] a1 a3 G1 h0 n0 Z0 O2 P3 (OL.keep K0 (allS ge_bv all0)) F_a1_coder_0 E_a3_0 F_a3_coder_0) (by decide) (by decide) (by decide) (by decide) e0 E_a1_0 (g := (mkF m 2 #[.val (.ref a1), .val (.int (0 : Int32)), .val (.ref a3)] [(.ref a3), (.ref a1)])) rfl (by rw [hml]; rfl) (lenOf pd_10_0 rfl) rfl (by show 2 * 0 + _ ≤ _; exact Nat.le_of_eq rfl) (hb hby d10_2))
  refine Goes.step st1 ?_
  show Goes p e below s _ _ _ T1 (mkF m 5 #[.val (.ref a1), .val (.int (0 : Int32)), .val (.ref a3)] [])
  refine Goes.step (fun _ k => XS.aloadN X1.here hx rfl (hb hby d10_5) rfl rfl k) ?_
  show Goes p e below s _ _ _ T1 (mkF m 6 #[.val (.ref a1), .val (.int (0 : Int32)), .val (.ref a3)] [(.ref a3)])
  refine Goes.step (fun _ k => XS.aloadN X1.here hx rfl (hb hby d10_6) rfl rfl k) ?_
  show Goes p e below s _ _ _ T1 (mkF m 7 #[.val (.ref a1), .val (.int (0 : Int32)), .val (.ref a3)] [(.ref a1), (.ref a3)])
  obtain ⟨T2, X2, e2, st2⟩ := getF X1 hx hZ hown (host := "") (Or.inl (hw _ (List.mem_of_getElem? (i := 23) rfl))) Via.refl e1 F_a1_value_0 (g := (mkF m 7 #[.val (.ref a1), .val (.int (0 : Int32)), .val (.ref a3)] [(.ref a1), (.ref a3)])) rfl rfl (hb hby d10_7)
  refine Goes.step st2 ?_
  show Goes p e below s _ _ _ T2 (mkF m 10 #[.val (.ref a1), .val (.int (0 : Int32)), .val (.ref a3)] [(.ref bv), (.ref a3)])
  refine Goes.step (fun _ k => XS.iloadN X2.here hx rfl (hb hby d10_10) rfl k) ?_
  show Goes p e below s _ _ _ T2 (mkF m 11 #[.val (.ref a1), .val (.int (0 : Int32)), .val (.ref a3)] [(.int (0 : Int32)), (.ref bv), (.ref a3)])
  refine Goes.step (fun _ k => XS.aloadN X2.here hx rfl (hb hby d10_11) rfl rfl k) ?_
  show Goes p e below s _ _ _ T2 (mkF m 12 #[.val (.ref a1), .val (.int (0 : Int32)), .val (.ref a3)] [(.ref a1), (.int (0 : Int32)), (.ref bv), (.ref a3)])
  obtain ⟨T3, X3, e3, st3⟩ := getF X2 hx hZ hown (host := "") (Or.inl (hw _ (List.mem_of_getElem? (i := 25) rfl))) Via.refl e2 F_a1_coder_0 (g := (mkF m 12 #[.val (.ref a1), .val (.int (0 : Int32)), .val (.ref a3)] [(.ref a1), (.int (0 : Int32)), (.ref bv), (.ref a3)])) rfl rfl (hb hby d10_12)
  refine Goes.step st3 ?_
  show Goes p e below s _ _ _ T3 (mkF m 15 #[.val (.ref a1), .val (.int (0 : Int32)), .val (.ref a3)] [(.int (0 : Int32)), (.int (0 : Int32)), (.ref bv), (.ref a3)])
  obtain ⟨v4, T4, h4, L4, X4, e4, Q4, st4⟩ := callXV X3 hx hZ (C := "java/lang/String") (b := a3) (y := (⟨"java/lang/String", "getBytes", "([BIB)V"⟩ : MethodName)) (z := (⟨"java/lang/String", "getBytes", "([BIB)V"⟩ : MethodName)) hown (hw _ (List.mem_of_getElem? (i := 74) rfl)) (hw _ (List.mem_of_getElem? (i := 75) rfl)) (hw _ (List.mem_of_getElem? (i := 77) rfl)) (hw _ (List.mem_of_getElem? (i := 76) rfl)) (hw _ (List.mem_of_getElem? (i := 78) rfl)) (hw _ (List.mem_of_getElem? (i := 21) rfl)) (notFace_of_selects (args := #[]) (mvT hZ (hw _ (List.mem_of_getElem? (i := 77) rfl)))) (by decide) (W := 0) (argsL := [(.ref bv), (.int (0 : Int32)), (.int (0 : Int32))]) (rest := []) (rm12 l Z a0 hw [] a3 bv G1 av n f g h0 n0 Z0 O2 P3 (OL.keep K0 (allS ge_bv all0)) E_a3_0 F_a3_value_0 F_a3_coder_0 A_av_0 A_bv_0 hn6 ge_bv) (by decide) (by decide) (by decide) (by decide) e3 E_a3_0 (g := (mkF m 15 #[.val (.ref a1), .val (.int (0 : Int32)), .val (.ref a3)] [(.int (0 : Int32)), (.int (0 : Int32)), (.ref bv), (.ref a3)])) rfl (by rw [hml]; rfl) (lenOf pd_10_1 rfl) rfl (by show 2 * 0 + _ ≤ _; exact Nat.le_of_eq rfl) (hb hby d10_15)
  obtain ⟨rfl, NQ4, KQ4, hA4⟩ := Q4
  refine Goes.step st4 ?_
  have E_a1_4 := E_a1_0.keep KQ4
  have E_bv_4 := E_bv_0.keep KQ4
  have E_a3_4 := E_a3_0.keep KQ4
  have z_4 : n0 ≤ h4.size := Nat.le_trans Z0 KQ4.1
  have K_4 : Keep h0 h4 [bv] := Keep.trans K0 KQ4 (allS (Or.inl (List.mem_of_getElem? (i := 0) rfl)) all0)
  have N_4 := Fr.app N0 NQ4
  show Goes p e below s _ _ _ T4 (mkF m 18 #[.val (.ref a1), .val (.int (0 : Int32)), .val (.ref a3)] [])
  exact Goes.outV X4 hx hlk Bd.returns (hb hby d10_18) (by rw [e4]; exact ⟨rfl, N_4, K_4, hA4⟩) (by decide) (by decide)
theorem d6_0 : decode jdk_68_method_22_code 0 = .ok (.aload_n 1, 1) := by decide +kernel
theorem d6_1 : decode jdk_68_method_22_code 1 = .ok (.ifnonnull 8, 3) := by decide +kernel
theorem d6_9 : decode jdk_68_method_22_code 9 = .ok (.aload_n 1, 1) := by decide +kernel
theorem d6_10 : decode jdk_68_method_22_code 10 = .ok (.invokevirtual 32, 3) := by decide +kernel
theorem d6_13 : decode jdk_68_method_22_code 13 = .ok (.istore_n 2, 1) := by decide +kernel
theorem d6_14 : decode jdk_68_method_22_code 14 = .ok (.aload_n 0, 1) := by decide +kernel
theorem d6_15 : decode jdk_68_method_22_code 15 = .ok (.aload_n 0, 1) := by decide +kernel
theorem d6_16 : decode jdk_68_method_22_code 16 = .ok (.getfield 79, 3) := by decide +kernel
theorem d6_19 : decode jdk_68_method_22_code 19 = .ok (.iload_n 2, 1) := by decide +kernel
theorem d6_20 : decode jdk_68_method_22_code 20 = .ok (.iadd, 1) := by decide +kernel
theorem d6_21 : decode jdk_68_method_22_code 21 = .ok (.invokevirtual 100, 3) := by decide +kernel
theorem d6_24 : decode jdk_68_method_22_code 24 = .ok (.aload_n 0, 1) := by decide +kernel
theorem d6_25 : decode jdk_68_method_22_code 25 = .ok (.aload_n 0, 1) := by decide +kernel
theorem d6_26 : decode jdk_68_method_22_code 26 = .ok (.getfield 79, 3) := by decide +kernel
theorem d6_29 : decode jdk_68_method_22_code 29 = .ok (.aload_n 1, 1) := by decide +kernel
theorem d6_30 : decode jdk_68_method_22_code 30 = .ok (.invokevirtual 208, 3) := by decide +kernel
theorem d6_33 : decode jdk_68_method_22_code 33 = .ok (.aload_n 0, 1) := by decide +kernel
theorem d6_34 : decode jdk_68_method_22_code 34 = .ok (.dup, 1) := by decide +kernel
theorem d6_35 : decode jdk_68_method_22_code 35 = .ok (.getfield 79, 3) := by decide +kernel
theorem d6_38 : decode jdk_68_method_22_code 38 = .ok (.iload_n 2, 1) := by decide +kernel
theorem d6_39 : decode jdk_68_method_22_code 39 = .ok (.iadd, 1) := by decide +kernel
theorem d6_40 : decode jdk_68_method_22_code 40 = .ok (.putfield 79, 3) := by decide +kernel
theorem d6_43 : decode jdk_68_method_22_code 43 = .ok (.aload_n 0, 1) := by decide +kernel
theorem d6_44 : decode jdk_68_method_22_code 44 = .ok (.areturn, 1) := by decide +kernel
theorem pn_6 : plainName "java/lang/AbstractStringBuilder" = true := by first | (simp [plainName, overriddenIn]; done) | decide +kernel
theorem pd_6_0 : parseMethodDescriptor "()I" = some ⟨[], some .int⟩ := by decide +kernel
theorem pd_6_1 : parseMethodDescriptor "(I)V" = some ⟨[.int], none⟩ := by decide +kernel
theorem pd_6_2 : parseMethodDescriptor "(ILjava/lang/String;)V" = some ⟨[.int, (.object "java/lang/String")], none⟩ := by decide +kernel
theorem ef_6 (m : MethodId) (a1 : Addr) (a2 : Addr) : entryFrame m #[(.ref a1), (.ref a2)] 3 = mkF m 0 #[.val (.ref a1), .val (.ref a2), .unset] [] := by first | (simp [entryFrame, mkF, argsToLocals, Value.category]; done) | rfl
def Q6 (Z : State) (a1 : Addr) (a2 : Addr) (G1 : Int32) (bv : Addr) (av : Addr) (f : Nat → Int32) (g : Nat → Int32) (h0 : Heap) (n0 : Nat) (v : Option Value) (h : Heap) (L : List Loc) : Prop := v = some (.ref a1) ∧ Fr n0 L ∧ Keep h0 h [a1, bv] ∧ Fld Z h a1 "java/lang/AbstractStringBuilder" "value" "[B" (.ref bv) ∧ Fld Z h a1 "java/lang/AbstractStringBuilder" "coder" "B" (.int (0 : Int32)) ∧ Fld Z h a1 "java/lang/AbstractStringBuilder" "count" "I" (.int (2 : Int32)) ∧ Ari Z h bv .byte 6 (blit f g 0 0 2)
set_option maxRecDepth 65536 in
set_option maxHeartbeats 40000000 in
theorem rm6 (l : Launch) (Z : State) (a0 : Array Value) (hw : ∀ d ∈ tables_1, d.before a0 Z = true) (ws : List Jvm.Cond) (a1 : Addr) (a2 : Addr) (G1 : Int32) (bv : Addr) (av : Addr) (f : Nat → Int32) (g : Nat → Int32) (h0 : Heap) (n0 : Nat) (Z0 : n0 ≤ h0.size) (O2 : Sta Z Z.heap "java/lang/String" "COMPACT_STRINGS" "Z" (.int G1)) (P3 : ¬ (G1 = (0 : Int32))) (OL : Old Z n0 h0) (E_a1_0 : Exa Z h0 a1 "java/lang/StringBuilder") (F_a1_value_0 : Fld Z h0 a1 "java/lang/AbstractStringBuilder" "value" "[B" (.ref bv)) (F_a1_coder_0 : Fld Z h0 a1 "java/lang/AbstractStringBuilder" "coder" "B" (.int (0 : Int32))) (F_a1_count_0 : Fld Z h0 a1 "java/lang/AbstractStringBuilder" "count" "I" (.int (0 : Int32))) (A_bv_0 : Ari Z h0 bv .byte 6 g) (E_bv_0 : Exa Z h0 bv "[B") (E_a2_0 : Exa Z h0 a2 "java/lang/String") (F_a2_value_0 : Fld Z h0 a2 "java/lang/String" "value" "[B" (.ref av)) (F_a2_coder_0 : Fld Z h0 a2 "java/lang/String" "coder" "B" (.int (0 : Int32))) (A_av_0 : Ari Z h0 av .byte 2 f) (ne_a1_bv : a1 ≠ bv) (ge_a1 : n0 ≤ a1) (ge_bv : n0 ≤ bv) :
    MetFree l (⟨"java/lang/AbstractStringBuilder", "append", "(Ljava/lang/String;)Ljava/lang/AbstractStringBuilder;"⟩ : MethodName) (head1 (Jvm.Cond.code (⟨"java/lang/AbstractStringBuilder", "append", "(Ljava/lang/String;)Ljava/lang/AbstractStringBuilder;"⟩ : MethodName) jdk_68_method_22_code 3 (some (.object "java/lang/AbstractStringBuilder")) :: ws) ({ frames := 3, cells := 0, slots := 0, locals := 56 } : Room)) (fun a U => a = #[(.ref a1), (.ref a2)] ∧ Z.Warmed39 U.vm ∧ U.heap = h0) (fun _ _ _ _ _ => True) (fun _ U o U' => ∃ v L, o = .returned v ∧ Q6 Z a1 a2 G1 bv av f g h0 n0 v U'.heap L ∧ FrameEnd U o U' L ({ frames := 3, cells := 0, slots := 0, locals := 56 } : Room).cells ({ frames := 3, cells := 0, slots := 0, locals := 56 } : Room).slots) := by
  refine MetFree.of_bodySF (plainFor_of_name pn_6) hisR ?_
  intro p e s m args below meth c s₁ Bd hml0 hP hK
  obtain ⟨rfl, hZ, hh⟩ := hP
  have hx := Bd.exec
  have hby := Bd.bytes
  have hlk := Bd.notSynchronized
  have hml : c.maxLocals = 3 := hml0
  have hown : s.vm.findClass "java/lang/AbstractStringBuilder" = some m.cls := findClass_of_methodNamed Bd.named
  have hnm := (name_of_methodNamed Bd.named Bd.method).1
  have X0 : Stand p l e ({ frames := 3, cells := 0, slots := 0, locals := 56 } : Room) s m #[(.ref a1), (.ref a2)] below meth c s₁ [] 0 0 := Stand.of_body Bd
  have e0 : s₁.heap = h0 := by rw [← hh, Bd.state]; rfl
  have N0 := Fr.nil n0
  have K0 : Keep h0 h0 [a1, bv] := Keep.refl h0 _
  show Goes p e below s ({ frames := 3, cells := 0, slots := 0, locals := 56 } : Room).cells ({ frames := 3, cells := 0, slots := 0, locals := 56 } : Room).slots (Q6 Z a1 a2 G1 bv av f g h0 n0) s₁ (entryFrame m #[(.ref a1), (.ref a2)] 3)
  refine Goes.step (fun t k => castTop (ef_6 m a1 a2) k) ?_
  refine Goes.step (fun _ k => XS.aloadN X0.here hx rfl (hb hby d6_0) rfl rfl k) ?_
  show Goes p e below s _ _ _ s₁ (mkF m 1 #[.val (.ref a1), .val (.ref a2), .unset] [(.ref a2)])
  refine Goes.step (fun _ k => XS.ifnonnullYes X0.here hx rfl (pc0 := 1) (pc' := 9) rfl (hb hby d6_1) rfl (by decide) (by decide) k) ?_
  show Goes p e below s _ _ _ s₁ (mkF m 9 #[.val (.ref a1), .val (.ref a2), .unset] [])
  refine Goes.step (fun _ k => XS.aloadN X0.here hx rfl (hb hby d6_9) rfl rfl k) ?_
  show Goes p e below s _ _ _ s₁ (mkF m 10 #[.val (.ref a1), .val (.ref a2), .unset] [(.ref a2)])
  obtain ⟨T1, X1, e1, st1⟩ := own_pure (r := some (.int (Int32.ofNat 2))) (fun _ _ _ q => q) (callXV X0 hx hZ (C := "java/lang/String") (b := a2) (y := (⟨"java/lang/String", "length", "()I"⟩ : MethodName)) (z := (⟨"java/lang/String", "length", "()I"⟩ : MethodName)) hown (hw _ (List.mem_of_getElem? (i := 43) rfl)) (hw _ (List.mem_of_getElem? (i := 44) rfl)) (hw _ (List.mem_of_getElem? (i := 46) rfl)) (hw _ (List.mem_of_getElem? (i := 45) rfl)) (hw _ (List.mem_of_getElem? (i := 47) rfl)) (hw _ (List.mem_of_getElem? (i := 21) rfl)) (notFace_of_selects (args := #[]) (mvT hZ (hw _ (List.mem_of_getElem? (i := 46) rfl)))) (by decide) (W := 0) (argsL := []) (rest := []) (rm7 l Z a0 hw [] a2 G1 av 2 f h0 n0 Z0 O2 P3 (OL.keep K0 (allS ge_a1 (allS ge_bv all0))) E_a2_0 F_a2_value_0 F_a2_coder_0 A_av_0) (by decide) (by decide) (by decide) (by decide) e0 E_a2_0 (g := (mkF m 10 #[.val (.ref a1), .val (.ref a2), .unset] [(.ref a2)])) rfl (by rw [hml]; rfl) (lenOf pd_6_0 rfl) rfl (by show 2 * 0 + _ ≤ _; exact Nat.le_of_eq rfl) (hb hby d6_10))
  refine Goes.step st1 ?_
  show Goes p e below s _ _ _ T1 (mkF m 13 #[.val (.ref a1), .val (.ref a2), .unset] [(.int (Int32.ofNat 2))])
  refine Goes.step (fun _ k => XS.istoreN X1.here hx rfl (hb hby d6_13) rfl (l' := #[.val (.ref a1), .val (.ref a2), .val (.int (Int32.ofNat 2))]) rfl k) ?_
  show Goes p e below s _ _ _ T1 (mkF m 14 #[.val (.ref a1), .val (.ref a2), .val (.int (Int32.ofNat 2))] [])
  refine Goes.step (fun _ k => XS.aloadN X1.here hx rfl (hb hby d6_14) rfl rfl k) ?_
  show Goes p e below s _ _ _ T1 (mkF m 15 #[.val (.ref a1), .val (.ref a2), .val (.int (Int32.ofNat 2))] [(.ref a1)])
  refine Goes.step (fun _ k => XS.aloadN X1.here hx rfl (hb hby d6_15) rfl rfl k) ?_
  show Goes p e below s _ _ _ T1 (mkF m 16 #[.val (.ref a1), .val (.ref a2), .val (.int (Int32.ofNat 2))] [(.ref a1), (.ref a1)])
  obtain ⟨T2, X2, e2, st2⟩ := getF X1 hx hZ hown (host := "") (Or.inl (hw _ (List.mem_of_getElem? (i := 56) rfl))) Via.refl e1 F_a1_count_0 (g := (mkF m 16 #[.val (.ref a1), .val (.ref a2), .val (.int (Int32.ofNat 2))] [(.ref a1), (.ref a1)])) rfl rfl (hb hby d6_16)
  refine Goes.step st2 ?_
  show Goes p e below s _ _ _ T2 (mkF m 19 #[.val (.ref a1), .val (.ref a2), .val (.int (Int32.ofNat 2))] [(.int (0 : Int32)), (.ref a1)])
  refine Goes.step (fun _ k => XS.iloadN X2.here hx rfl (hb hby d6_19) rfl k) ?_
  show Goes p e below s _ _ _ T2 (mkF m 20 #[.val (.ref a1), .val (.ref a2), .val (.int (Int32.ofNat 2))] [(.int (Int32.ofNat 2)), (.int (0 : Int32)), (.ref a1)])
  refine Goes.step (fun _ k => XS.iadd X2.here hx rfl (hb hby d6_20) rfl k) ?_
  show Goes p e below s _ _ _ T2 (mkF m 21 #[.val (.ref a1), .val (.ref a2), .val (.int (Int32.ofNat 2))] [(.int (2 : Int32)), (.ref a1)])
  obtain ⟨T3, X3, e3, st3⟩ := own_pure (r := none) (fun _ _ _ q => q) (callXV X2 hx hZ (C := "java/lang/StringBuilder") (b := a1) (y := (⟨"java/lang/AbstractStringBuilder", "ensureCapacityInternal", "(I)V"⟩ : MethodName)) (z := (⟨"java/lang/AbstractStringBuilder", "ensureCapacityInternal", "(I)V"⟩ : MethodName)) hown (hw _ (List.mem_of_getElem? (i := 58) rfl)) (own_declares (hw _ (List.mem_of_getElem? (i := 59) rfl)) (hw _ (List.mem_of_getElem? (i := 62) rfl))) (hw _ (List.mem_of_getElem? (i := 61) rfl)) (hw _ (List.mem_of_getElem? (i := 59) rfl)) (hw _ (List.mem_of_getElem? (i := 62) rfl)) (hw _ (List.mem_of_getElem? (i := 15) rfl)) (notFace_of_selects (args := #[]) (mvT hZ (hw _ (List.mem_of_getElem? (i := 61) rfl)))) (by decide) (W := 0) (argsL := [(.int (2 : Int32))]) (rest := []) (rm9 l Z a0 hw [] a1 (2 : Int32) bv g h0 n0 Z0 F_a1_value_0 F_a1_coder_0 A_bv_0 (by decide)) (by decide) (by decide) (by decide) (by decide) e2 E_a1_0 (g := (mkF m 21 #[.val (.ref a1), .val (.ref a2), .val (.int (Int32.ofNat 2))] [(.int (2 : Int32)), (.ref a1)])) rfl (by rw [hml]; rfl) (lenOf pd_6_1 rfl) rfl (by show 2 * 0 + _ ≤ _; exact Nat.le_of_eq rfl) (hb hby d6_21))
  refine Goes.step st3 ?_
  show Goes p e below s _ _ _ T3 (mkF m 24 #[.val (.ref a1), .val (.ref a2), .val (.int (Int32.ofNat 2))] [])
  refine Goes.step (fun _ k => XS.aloadN X3.here hx rfl (hb hby d6_24) rfl rfl k) ?_
  show Goes p e below s _ _ _ T3 (mkF m 25 #[.val (.ref a1), .val (.ref a2), .val (.int (Int32.ofNat 2))] [(.ref a1)])
  refine Goes.step (fun _ k => XS.aloadN X3.here hx rfl (hb hby d6_25) rfl rfl k) ?_
  show Goes p e below s _ _ _ T3 (mkF m 26 #[.val (.ref a1), .val (.ref a2), .val (.int (Int32.ofNat 2))] [(.ref a1), (.ref a1)])
  obtain ⟨T4, X4, e4, st4⟩ := getF X3 hx hZ hown (host := "") (Or.inl (hw _ (List.mem_of_getElem? (i := 56) rfl))) Via.refl e3 F_a1_count_0 (g := (mkF m 26 #[.val (.ref a1), .val (.ref a2), .val (.int (Int32.ofNat 2))] [(.ref a1), (.ref a1)])) rfl rfl (hb hby d6_26)
  refine Goes.step st4 ?_
  show Goes p e below s _ _ _ T4 (mkF m 29 #[.val (.ref a1), .val (.ref a2), .val (.int (Int32.ofNat 2))] [(.int (0 : Int32)), (.ref a1)])
  refine Goes.step (fun _ k => XS.aloadN X4.here hx rfl (hb hby d6_29) rfl rfl k) ?_
  show Goes p e below s _ _ _ T4 (mkF m 30 #[.val (.ref a1), .val (.ref a2), .val (.int (Int32.ofNat 2))] [(.ref a2), (.int (0 : Int32)), (.ref a1)])
  obtain ⟨v5, T5, h5, L5, X5, e5, Q5, st5⟩ := callXV X4 hx hZ (C := "java/lang/StringBuilder") (b := a1) (y := (⟨"java/lang/AbstractStringBuilder", "putStringAt", "(ILjava/lang/String;)V"⟩ : MethodName)) (z := (⟨"java/lang/AbstractStringBuilder", "putStringAt", "(ILjava/lang/String;)V"⟩ : MethodName)) hown (hw _ (List.mem_of_getElem? (i := 63) rfl)) (own_declares (hw _ (List.mem_of_getElem? (i := 64) rfl)) (hw _ (List.mem_of_getElem? (i := 67) rfl))) (hw _ (List.mem_of_getElem? (i := 66) rfl)) (hw _ (List.mem_of_getElem? (i := 64) rfl)) (hw _ (List.mem_of_getElem? (i := 67) rfl)) (hw _ (List.mem_of_getElem? (i := 15) rfl)) (notFace_of_selects (args := #[]) (mvT hZ (hw _ (List.mem_of_getElem? (i := 66) rfl)))) (by decide) (W := 0) (argsL := [(.int (0 : Int32)), (.ref a2)]) (rest := []) (rm10 l Z a0 hw [] a1 a2 G1 bv av 2 f g h0 n0 Z0 O2 P3 (OL.keep K0 (allS ge_a1 (allS ge_bv all0))) E_a1_0 F_a1_value_0 F_a1_coder_0 F_a1_count_0 A_bv_0 E_bv_0 E_a2_0 F_a2_value_0 F_a2_coder_0 A_av_0 (by decide) ge_bv) (by decide) (by decide) (by decide) (by decide) e4 E_a1_0 (g := (mkF m 30 #[.val (.ref a1), .val (.ref a2), .val (.int (Int32.ofNat 2))] [(.ref a2), (.int (0 : Int32)), (.ref a1)])) rfl (by rw [hml]; rfl) (lenOf pd_6_2 rfl) rfl (by show 2 * 0 + _ ≤ _; exact Nat.le_of_eq rfl) (hb hby d6_30)
  obtain ⟨rfl, NQ5, KQ5, hA5⟩ := Q5
  refine Goes.step st5 ?_
  have E_a1_5 := E_a1_0.keep KQ5
  have F_a1_value_5 := F_a1_value_0.keep KQ5 (ninS ne_a1_bv nin0)
  have F_a1_coder_5 := F_a1_coder_0.keep KQ5 (ninS ne_a1_bv nin0)
  have F_a1_count_5 := F_a1_count_0.keep KQ5 (ninS ne_a1_bv nin0)
  have E_bv_5 := E_bv_0.keep KQ5
  have E_a2_5 := E_a2_0.keep KQ5
  have z_5 : n0 ≤ h5.size := Nat.le_trans Z0 KQ5.1
  have K_5 : Keep h0 h5 [a1, bv] := Keep.trans K0 KQ5 (allS (Or.inl (List.mem_of_getElem? (i := 1) rfl)) all0)
  have N_5 := Fr.app N0 NQ5
  show Goes p e below s _ _ _ T5 (mkF m 33 #[.val (.ref a1), .val (.ref a2), .val (.int (Int32.ofNat 2))] [])
  refine Goes.step (fun _ k => XS.aloadN X5.here hx rfl (hb hby d6_33) rfl rfl k) ?_
  show Goes p e below s _ _ _ T5 (mkF m 34 #[.val (.ref a1), .val (.ref a2), .val (.int (Int32.ofNat 2))] [(.ref a1)])
  refine Goes.step (fun _ k => XS.dup X5.here hx rfl (hb hby d6_34) rfl rfl k) ?_
  show Goes p e below s _ _ _ T5 (mkF m 35 #[.val (.ref a1), .val (.ref a2), .val (.int (Int32.ofNat 2))] [(.ref a1), (.ref a1)])
  obtain ⟨T6, X6, e6, st6⟩ := getF X5 hx hZ hown (host := "") (Or.inl (hw _ (List.mem_of_getElem? (i := 56) rfl))) Via.refl e5 F_a1_count_5 (g := (mkF m 35 #[.val (.ref a1), .val (.ref a2), .val (.int (Int32.ofNat 2))] [(.ref a1), (.ref a1)])) rfl rfl (hb hby d6_35)
  refine Goes.step st6 ?_
  show Goes p e below s _ _ _ T6 (mkF m 38 #[.val (.ref a1), .val (.ref a2), .val (.int (Int32.ofNat 2))] [(.int (0 : Int32)), (.ref a1)])
  refine Goes.step (fun _ k => XS.iloadN X6.here hx rfl (hb hby d6_38) rfl k) ?_
  show Goes p e below s _ _ _ T6 (mkF m 39 #[.val (.ref a1), .val (.ref a2), .val (.int (Int32.ofNat 2))] [(.int (Int32.ofNat 2)), (.int (0 : Int32)), (.ref a1)])
  refine Goes.step (fun _ k => XS.iadd X6.here hx rfl (hb hby d6_39) rfl k) ?_
  show Goes p e below s _ _ _ T6 (mkF m 40 #[.val (.ref a1), .val (.ref a2), .val (.int (Int32.ofNat 2))] [(.int (2 : Int32)), (.ref a1)])
  obtain ⟨T7, h7, X7, e7, W7, st7⟩ := putF X6 hx hZ hown (host := "") (Or.inl (hw _ (List.mem_of_getElem? (i := 56) rfl))) Via.refl e6 F_a1_count_5 E_a1_5 (Or.inl (hw _ (List.mem_of_getElem? (i := 57) rfl))) (hw _ (List.mem_of_getElem? (i := 6) rfl)) (ty := .int) (by decide) rfl rfl (g := (mkF m 40 #[.val (.ref a1), .val (.ref a2), .val (.int (Int32.ofNat 2))] [(.int (2 : Int32)), (.ref a1)])) rfl rfl (hb hby d6_40)
  refine Goes.step st7 ?_
  have E_a1_7 := E_a1_5.wr W7
  have F_a1_value_7 := F_a1_value_5.other W7 (Or.inr (slot_ne (Or.inl (hw _ (List.mem_of_getElem? (i := 24) rfl))) (Or.inl (hw _ (List.mem_of_getElem? (i := 57) rfl))) (by decide) (t := (.array .byte)) (t' := .int) (by decide) (by decide)))
  have F_a1_coder_7 := F_a1_coder_5.other W7 (Or.inr (slot_ne (Or.inl (hw _ (List.mem_of_getElem? (i := 26) rfl))) (Or.inl (hw _ (List.mem_of_getElem? (i := 57) rfl))) (by decide) (t := .byte) (t' := .int) (by decide) (by decide)))
  have E_bv_7 := E_bv_5.wr W7
  have E_a2_7 := E_a2_5.wr W7
  have hA5_7 := hA5.other W7 (Ne.symm ne_a1_bv)
  have z_7 : n0 ≤ h7.size := by rw [W7.size]; exact z_5
  have K_7 : Keep h0 h7 [a1, bv] := K_5.wr W7 (Or.inl (List.mem_of_getElem? (i := 0) rfl))
  have N_7 := Fr.snoc X7 N_5 ge_a1
  have F_a1_count_7 : Fld Z h7 a1 "java/lang/AbstractStringBuilder" "count" "I" (.int (2 : Int32)) := F_a1_count_5.same W7
  show Goes p e below s _ _ _ T7 (mkF m 43 #[.val (.ref a1), .val (.ref a2), .val (.int (Int32.ofNat 2))] [])
  refine Goes.step (fun _ k => XS.aloadN X7.here hx rfl (hb hby d6_43) rfl rfl k) ?_
  show Goes p e below s _ _ _ T7 (mkF m 44 #[.val (.ref a1), .val (.ref a2), .val (.int (Int32.ofNat 2))] [(.ref a1)])
  exact Goes.outR X7 hx hlk Bd.returns rfl rfl (hb hby d6_44) (by rw [e7]; exact ⟨rfl, N_7, K_7, F_a1_value_7, F_a1_coder_7, F_a1_count_7, hA5_7⟩) (by decide) (by decide)
theorem d5_0 : decode jdk_67_method_7_code 0 = .ok (.aload_n 0, 1) := by decide +kernel
theorem d5_1 : decode jdk_67_method_7_code 1 = .ok (.aload_n 1, 1) := by decide +kernel
theorem d5_2 : decode jdk_67_method_7_code 2 = .ok (.invokespecial 29, 3) := by decide +kernel
theorem d5_5 : decode jdk_67_method_7_code 5 = .ok (.pop, 1) := by decide +kernel
theorem d5_6 : decode jdk_67_method_7_code 6 = .ok (.aload_n 0, 1) := by decide +kernel
theorem d5_7 : decode jdk_67_method_7_code 7 = .ok (.areturn, 1) := by decide +kernel
theorem pn_5 : plainName "java/lang/StringBuilder" = true := by first | (simp [plainName, overriddenIn]; done) | decide +kernel
theorem pd_5_0 : parseMethodDescriptor "(Ljava/lang/String;)Ljava/lang/AbstractStringBuilder;" = some ⟨[(.object "java/lang/String")], some (.object "java/lang/AbstractStringBuilder")⟩ := by decide +kernel
theorem ef_5 (m : MethodId) (a1 : Addr) (a2 : Addr) : entryFrame m #[(.ref a1), (.ref a2)] 2 = mkF m 0 #[.val (.ref a1), .val (.ref a2)] [] := by first | (simp [entryFrame, mkF, argsToLocals, Value.category]; done) | rfl
def Q5 (Z : State) (a1 : Addr) (a2 : Addr) (G1 : Int32) (bv : Addr) (av : Addr) (f : Nat → Int32) (g : Nat → Int32) (h0 : Heap) (n0 : Nat) (v : Option Value) (h : Heap) (L : List Loc) : Prop := v = some (.ref a1) ∧ Fr n0 L ∧ Keep h0 h [a1, bv] ∧ Fld Z h a1 "java/lang/AbstractStringBuilder" "value" "[B" (.ref bv) ∧ Fld Z h a1 "java/lang/AbstractStringBuilder" "coder" "B" (.int (0 : Int32)) ∧ Fld Z h a1 "java/lang/AbstractStringBuilder" "count" "I" (.int (2 : Int32)) ∧ Ari Z h bv .byte 6 (blit f g 0 0 2)
set_option maxRecDepth 65536 in
set_option maxHeartbeats 40000000 in
theorem rm5 (l : Launch) (Z : State) (a0 : Array Value) (hw : ∀ d ∈ tables_1, d.before a0 Z = true) (ws : List Jvm.Cond) (a1 : Addr) (a2 : Addr) (G1 : Int32) (bv : Addr) (av : Addr) (f : Nat → Int32) (g : Nat → Int32) (h0 : Heap) (n0 : Nat) (Z0 : n0 ≤ h0.size) (O2 : Sta Z Z.heap "java/lang/String" "COMPACT_STRINGS" "Z" (.int G1)) (P3 : ¬ (G1 = (0 : Int32))) (OL : Old Z n0 h0) (E_a1_0 : Exa Z h0 a1 "java/lang/StringBuilder") (F_a1_value_0 : Fld Z h0 a1 "java/lang/AbstractStringBuilder" "value" "[B" (.ref bv)) (F_a1_coder_0 : Fld Z h0 a1 "java/lang/AbstractStringBuilder" "coder" "B" (.int (0 : Int32))) (F_a1_count_0 : Fld Z h0 a1 "java/lang/AbstractStringBuilder" "count" "I" (.int (0 : Int32))) (A_bv_0 : Ari Z h0 bv .byte 6 g) (E_bv_0 : Exa Z h0 bv "[B") (E_a2_0 : Exa Z h0 a2 "java/lang/String") (F_a2_value_0 : Fld Z h0 a2 "java/lang/String" "value" "[B" (.ref av)) (F_a2_coder_0 : Fld Z h0 a2 "java/lang/String" "coder" "B" (.int (0 : Int32))) (A_av_0 : Ari Z h0 av .byte 2 f) (ne_a1_bv : a1 ≠ bv) (ge_a1 : n0 ≤ a1) (ge_bv : n0 ≤ bv) :
    MetFree l (⟨"java/lang/StringBuilder", "append", "(Ljava/lang/String;)Ljava/lang/StringBuilder;"⟩ : MethodName) (head1 (Jvm.Cond.code (⟨"java/lang/StringBuilder", "append", "(Ljava/lang/String;)Ljava/lang/StringBuilder;"⟩ : MethodName) jdk_67_method_7_code 2 (some (.object "java/lang/StringBuilder")) :: ws) ({ frames := 4, cells := 0, slots := 0, locals := 70 } : Room)) (fun a U => a = #[(.ref a1), (.ref a2)] ∧ Z.Warmed39 U.vm ∧ U.heap = h0) (fun _ _ _ _ _ => True) (fun _ U o U' => ∃ v L, o = .returned v ∧ Q5 Z a1 a2 G1 bv av f g h0 n0 v U'.heap L ∧ FrameEnd U o U' L ({ frames := 4, cells := 0, slots := 0, locals := 70 } : Room).cells ({ frames := 4, cells := 0, slots := 0, locals := 70 } : Room).slots) := by
  refine MetFree.of_bodySF (plainFor_of_name pn_5) hisR ?_
  intro p e s m args below meth c s₁ Bd hml0 hP hK
  obtain ⟨rfl, hZ, hh⟩ := hP
  have hx := Bd.exec
  have hby := Bd.bytes
  have hlk := Bd.notSynchronized
  have hml : c.maxLocals = 2 := hml0
  have hown : s.vm.findClass "java/lang/StringBuilder" = some m.cls := findClass_of_methodNamed Bd.named
  have hnm := (name_of_methodNamed Bd.named Bd.method).1
  have X0 : Stand p l e ({ frames := 4, cells := 0, slots := 0, locals := 70 } : Room) s m #[(.ref a1), (.ref a2)] below meth c s₁ [] 0 0 := Stand.of_body Bd
  have e0 : s₁.heap = h0 := by rw [← hh, Bd.state]; rfl
  have N0 := Fr.nil n0
  have K0 : Keep h0 h0 [a1, bv] := Keep.refl h0 _
  show Goes p e below s ({ frames := 4, cells := 0, slots := 0, locals := 70 } : Room).cells ({ frames := 4, cells := 0, slots := 0, locals := 70 } : Room).slots (Q5 Z a1 a2 G1 bv av f g h0 n0) s₁ (entryFrame m #[(.ref a1), (.ref a2)] 2)
  refine Goes.step (fun t k => castTop (ef_5 m a1 a2) k) ?_
  refine Goes.step (fun _ k => XS.aloadN X0.here hx rfl (hb hby d5_0) rfl rfl k) ?_
  show Goes p e below s _ _ _ s₁ (mkF m 1 #[.val (.ref a1), .val (.ref a2)] [(.ref a1)])
  refine Goes.step (fun _ k => XS.aloadN X0.here hx rfl (hb hby d5_1) rfl rfl k) ?_
  show Goes p e below s _ _ _ s₁ (mkF m 2 #[.val (.ref a1), .val (.ref a2)] [(.ref a2), (.ref a1)])
  obtain ⟨v1, T1, h1, L1, X1, e1, Q1, st1⟩ := callXS X0 hx hZ (b := a1) (y := (⟨"java/lang/AbstractStringBuilder", "append", "(Ljava/lang/String;)Ljava/lang/AbstractStringBuilder;"⟩ : MethodName)) hown (hw _ (List.mem_of_getElem? (i := 38) rfl)) (own_sameM (y := (⟨"java/lang/AbstractStringBuilder", "append", "(Ljava/lang/String;)Ljava/lang/AbstractStringBuilder;"⟩ : MethodName)) (hw _ (List.mem_of_getElem? (i := 39) rfl)) (hw _ (List.mem_of_getElem? (i := 61) rfl)) rfl (by decide)) (hw _ (List.mem_of_getElem? (i := 39) rfl)) (hw _ (List.mem_of_getElem? (i := 40) rfl)) (hw _ (List.mem_of_getElem? (i := 42) rfl)) (hw _ (List.mem_of_getElem? (i := 15) rfl)) (by decide) (W := 0) (argsL := [(.ref a2)]) (rest := []) (rm6 l Z a0 hw [] a1 a2 G1 bv av f g h0 n0 Z0 O2 P3 (OL.keep K0 (allS ge_a1 (allS ge_bv all0))) E_a1_0 F_a1_value_0 F_a1_coder_0 F_a1_count_0 A_bv_0 E_bv_0 E_a2_0 F_a2_value_0 F_a2_coder_0 A_av_0 ne_a1_bv ge_a1 ge_bv) (by decide) (by decide) (by decide) (by decide) e0 E_a1_0 (g := (mkF m 2 #[.val (.ref a1), .val (.ref a2)] [(.ref a2), (.ref a1)])) rfl (by rw [hml]; rfl) (lenOf pd_5_0 rfl) rfl (by show 2 * 0 + _ ≤ _; exact Nat.le_of_eq rfl) (hb hby d5_2)
  obtain ⟨rfl, NQ1, KQ1, hV1, hC1, hN1, hA1⟩ := Q1
  refine Goes.step st1 ?_
  have E_a1_1 := E_a1_0.keep KQ1
  have E_bv_1 := E_bv_0.keep KQ1
  have E_a2_1 := E_a2_0.keep KQ1
  have z_1 : n0 ≤ h1.size := Nat.le_trans Z0 KQ1.1
  have K_1 : Keep h0 h1 [a1, bv] := Keep.trans K0 KQ1 (allS (Or.inl (List.mem_of_getElem? (i := 0) rfl)) (allS (Or.inl (List.mem_of_getElem? (i := 1) rfl)) all0))
  have N_1 := Fr.app N0 NQ1
  show Goes p e below s _ _ _ T1 (mkF m 5 #[.val (.ref a1), .val (.ref a2)] [(.ref a1)])
  refine Goes.step (fun _ k => XS.pop X1.here hx rfl (hb hby d5_5) rfl rfl k) ?_
  show Goes p e below s _ _ _ T1 (mkF m 6 #[.val (.ref a1), .val (.ref a2)] [])
  refine Goes.step (fun _ k => XS.aloadN X1.here hx rfl (hb hby d5_6) rfl rfl k) ?_
  show Goes p e below s _ _ _ T1 (mkF m 7 #[.val (.ref a1), .val (.ref a2)] [(.ref a1)])
  exact Goes.outR X1 hx hlk Bd.returns rfl rfl (hb hby d5_7) (by rw [e1]; exact ⟨rfl, N_1, K_1, hV1, hC1, hN1, hA1⟩) (by decide) (by decide)
theorem d20_0 : decode jdk_68_method_68_code 0 = .ok (.getstatic 18, 3) := by decide +kernel
theorem d20_3 : decode jdk_68_method_68_code 3 = .ok (.ifCond .eq 14, 3) := by decide +kernel
theorem d20_6 : decode jdk_68_method_68_code 6 = .ok (.aload_n 0, 1) := by decide +kernel
theorem d20_7 : decode jdk_68_method_68_code 7 = .ok (.getfield 22, 3) := by decide +kernel
theorem d20_10 : decode jdk_68_method_68_code 10 = .ok (.ifCond .ne 7, 3) := by decide +kernel
theorem d20_13 : decode jdk_68_method_68_code 13 = .ok (.iconst 1, 1) := by decide +kernel
theorem d20_14 : decode jdk_68_method_68_code 14 = .ok (.goto 4, 3) := by decide +kernel
theorem d20_18 : decode jdk_68_method_68_code 18 = .ok (.ireturn, 1) := by decide +kernel
theorem pn_20 : plainName "java/lang/AbstractStringBuilder" = true := by first | (simp [plainName, overriddenIn]; done) | decide +kernel
theorem ef_20 (m : MethodId) (a1 : Addr) : entryFrame m #[(.ref a1)] 1 = mkF m 0 #[.val (.ref a1)] [] := by first | (simp [entryFrame, mkF, argsToLocals, Value.category]; done) | rfl
def Q20 (Z : State) (a1 : Addr) (G1 : Int32) (h0 : Heap) (n0 : Nat) (v : Option Value) (h : Heap) (L : List Loc) : Prop := PQ h0 (some (.int (1 : Int32))) v h L
set_option maxRecDepth 65536 in
set_option maxHeartbeats 40000000 in
theorem rm20 (l : Launch) (Z : State) (a0 : Array Value) (hw : ∀ d ∈ tables_1, d.before a0 Z = true) (ws : List Jvm.Cond) (a1 : Addr) (G1 : Int32) (h0 : Heap) (n0 : Nat) (Z0 : n0 ≤ h0.size) (O2 : Sta Z Z.heap "java/lang/String" "COMPACT_STRINGS" "Z" (.int G1)) (P3 : ¬ (G1 = (0 : Int32))) (OL : Old Z n0 h0) (F_a1_coder_0 : Fld Z h0 a1 "java/lang/AbstractStringBuilder" "coder" "B" (.int (0 : Int32))) :
    MetFree l (⟨"java/lang/AbstractStringBuilder", "isLatin1", "()Z"⟩ : MethodName) (head1 (Jvm.Cond.code (⟨"java/lang/AbstractStringBuilder", "isLatin1", "()Z"⟩ : MethodName) jdk_68_method_68_code 1 (some .boolean) :: ws) ({ frames := 0, cells := 0, slots := 0, locals := 0 } : Room)) (fun a U => a = #[(.ref a1)] ∧ Z.Warmed39 U.vm ∧ U.heap = h0) (fun _ _ _ _ _ => True) (fun _ U o U' => ∃ v L, o = .returned v ∧ Q20 Z a1 G1 h0 n0 v U'.heap L ∧ FrameEnd U o U' L ({ frames := 0, cells := 0, slots := 0, locals := 0 } : Room).cells ({ frames := 0, cells := 0, slots := 0, locals := 0 } : Room).slots) := by
  refine MetFree.of_bodySF (plainFor_of_name pn_20) hisR ?_
  intro p e s m args below meth c s₁ Bd hml0 hP hK
  obtain ⟨rfl, hZ, hh⟩ := hP
  have hx := Bd.exec
  have hby := Bd.bytes
  have hlk := Bd.notSynchronized
  have hml : c.maxLocals = 1 := hml0
  have hown : s.vm.findClass "java/lang/AbstractStringBuilder" = some m.cls := findClass_of_methodNamed Bd.named
  have hnm := (name_of_methodNamed Bd.named Bd.method).1
  have X0 : Stand p l e ({ frames := 0, cells := 0, slots := 0, locals := 0 } : Room) s m #[(.ref a1)] below meth c s₁ [] 0 0 := Stand.of_body Bd
  have e0 : s₁.heap = h0 := by rw [← hh, Bd.state]; rfl
  have N0 := Fr.nil n0
  have K0 : Keep h0 h0 [] := Keep.refl h0 _
  show Goes p e below s ({ frames := 0, cells := 0, slots := 0, locals := 0 } : Room).cells ({ frames := 0, cells := 0, slots := 0, locals := 0 } : Room).slots (Q20 Z a1 G1 h0 n0) s₁ (entryFrame m #[(.ref a1)] 1)
  refine Goes.step (fun t k => castTop (ef_20 m a1) k) ?_
  obtain ⟨T1, X1, e1, st1⟩ := getS2 X0 hx hZ hown (host := "") (Or.inl (hw _ (List.mem_of_getElem? (i := 20) rfl))) Via.refl e0 (O2.ext (OL.keep K0 all0).2) (g := (mkF m 0 #[.val (.ref a1)] [])) rfl (hb hby d20_0)
  refine Goes.step st1 ?_
  show Goes p e below s _ _ _ T1 (mkF m 3 #[.val (.ref a1)] [(.int G1)])
  refine Goes.step (fun _ k => XS.ifNo X1.here hx rfl (hb hby d20_3) rfl ((if0 _ _).trans (feq P3).1) k) ?_
  show Goes p e below s _ _ _ T1 (mkF m 6 #[.val (.ref a1)] [])
  refine Goes.step (fun _ k => XS.aloadN X1.here hx rfl (hb hby d20_6) rfl rfl k) ?_
  show Goes p e below s _ _ _ T1 (mkF m 7 #[.val (.ref a1)] [(.ref a1)])
  obtain ⟨T2, X2, e2, st2⟩ := getF X1 hx hZ hown (host := "") (Or.inl (hw _ (List.mem_of_getElem? (i := 25) rfl))) Via.refl e1 F_a1_coder_0 (g := (mkF m 7 #[.val (.ref a1)] [(.ref a1)])) rfl rfl (hb hby d20_7)
  refine Goes.step st2 ?_
  show Goes p e below s _ _ _ T2 (mkF m 10 #[.val (.ref a1)] [(.int (0 : Int32))])
  refine Goes.step (fun _ k => XS.ifNo X2.here hx rfl (hb hby d20_10) rfl ((if0 _ _).trans (teq (by decide : (0 : Int32) = (0 : Int32))).2) k) ?_
  show Goes p e below s _ _ _ T2 (mkF m 13 #[.val (.ref a1)] [])
  refine Goes.step (fun _ k => XS.iconst X2.here hx rfl (hb hby d20_13) k) ?_
  show Goes p e below s _ _ _ T2 (mkF m 14 #[.val (.ref a1)] [(.int (1 : Int32))])
  refine Goes.step (fun _ k => XS.goto X2.here hx rfl (pc0 := 14) (pc' := 18) rfl (hb hby d20_14) (by decide) (by decide) k) ?_
  show Goes p e below s _ _ _ T2 (mkF m 18 #[.val (.ref a1)] [(.int (1 : Int32))])
  exact Goes.outN X2 hx hlk (t := .boolean) Bd.returns (by simp) (hb hby d20_18) (by rw [e2]; exact ⟨rfl, rfl, rfl⟩) (by decide) (by decide)
theorem d19_0 : decode jdk_68_method_31_code 0 = .ok (.aload_n 0, 1) := by decide +kernel
theorem d19_1 : decode jdk_68_method_31_code 1 = .ok (.aload_n 0, 1) := by decide +kernel
theorem d19_2 : decode jdk_68_method_31_code 2 = .ok (.getfield 79, 3) := by decide +kernel
theorem d19_5 : decode jdk_68_method_31_code 5 = .ok (.iconst 1, 1) := by decide +kernel
theorem d19_6 : decode jdk_68_method_31_code 6 = .ok (.iadd, 1) := by decide +kernel
theorem d19_7 : decode jdk_68_method_31_code 7 = .ok (.invokevirtual 100, 3) := by decide +kernel
theorem d19_10 : decode jdk_68_method_31_code 10 = .ok (.aload_n 0, 1) := by decide +kernel
theorem d19_11 : decode jdk_68_method_31_code 11 = .ok (.invokevirtual 83, 3) := by decide +kernel
theorem d19_14 : decode jdk_68_method_31_code 14 = .ok (.ifCond .eq 31, 3) := by decide +kernel
theorem d19_17 : decode jdk_68_method_31_code 17 = .ok (.iload_n 1, 1) := by decide +kernel
theorem d19_18 : decode jdk_68_method_31_code 18 = .ok (.invokestatic 191, 3) := by decide +kernel
theorem d19_21 : decode jdk_68_method_31_code 21 = .ok (.ifCond .eq 24, 3) := by decide +kernel
theorem d19_24 : decode jdk_68_method_31_code 24 = .ok (.aload_n 0, 1) := by decide +kernel
theorem d19_25 : decode jdk_68_method_31_code 25 = .ok (.getfield 15, 3) := by decide +kernel
theorem d19_28 : decode jdk_68_method_31_code 28 = .ok (.aload_n 0, 1) := by decide +kernel
theorem d19_29 : decode jdk_68_method_31_code 29 = .ok (.dup, 1) := by decide +kernel
theorem d19_30 : decode jdk_68_method_31_code 30 = .ok (.getfield 79, 3) := by decide +kernel
theorem d19_33 : decode jdk_68_method_31_code 33 = .ok (.dup_x1, 1) := by decide +kernel
theorem d19_34 : decode jdk_68_method_31_code 34 = .ok (.iconst 1, 1) := by decide +kernel
theorem d19_35 : decode jdk_68_method_31_code 35 = .ok (.iadd, 1) := by decide +kernel
theorem d19_36 : decode jdk_68_method_31_code 36 = .ok (.putfield 79, 3) := by decide +kernel
theorem d19_39 : decode jdk_68_method_31_code 39 = .ok (.iload_n 1, 1) := by decide +kernel
theorem d19_40 : decode jdk_68_method_31_code 40 = .ok (.i2b, 1) := by decide +kernel
theorem d19_41 : decode jdk_68_method_31_code 41 = .ok (.bastore, 1) := by decide +kernel
theorem d19_42 : decode jdk_68_method_31_code 42 = .ok (.goto 33, 3) := by decide +kernel
theorem d19_75 : decode jdk_68_method_31_code 75 = .ok (.aload_n 0, 1) := by decide +kernel
theorem d19_76 : decode jdk_68_method_31_code 76 = .ok (.areturn, 1) := by decide +kernel
theorem pn_19 : plainName "java/lang/AbstractStringBuilder" = true := by first | (simp [plainName, overriddenIn]; done) | decide +kernel
theorem pd_19_0 : parseMethodDescriptor "(I)V" = some ⟨[.int], none⟩ := by decide +kernel
theorem pd_19_1 : parseMethodDescriptor "()Z" = some ⟨[], some .boolean⟩ := by decide +kernel
theorem pd_19_2 : parseMethodDescriptor "(C)Z" = some ⟨[.char], some .boolean⟩ := by decide +kernel
theorem ef_19 (m : MethodId) (a1 : Addr) (p2 : Int32) : entryFrame m #[(.ref a1), (.int p2)] 2 = mkF m 0 #[.val (.ref a1), .val (.int p2)] [] := by first | (simp [entryFrame, mkF, argsToLocals, Value.category]; done) | rfl
def Q19 (Z : State) (a1 : Addr) (p2 : Int32) (G1 : Int32) (bv : Addr) (f : Nat → Int32) (k : Nat) (h0 : Heap) (n0 : Nat) (v : Option Value) (h : Heap) (L : List Loc) : Prop := v = some (.ref a1) ∧ Fr n0 L ∧ Keep h0 h [a1, bv] ∧ Fld Z h a1 "java/lang/AbstractStringBuilder" "value" "[B" (.ref bv) ∧ Fld Z h a1 "java/lang/AbstractStringBuilder" "coder" "B" (.int (0 : Int32)) ∧ Fld Z h a1 "java/lang/AbstractStringBuilder" "count" "I" (.int ((Int32.ofNat k) + (1 : Int32))) ∧ Ari Z h bv .byte 6 (updI f k ((p2.toInt8.toInt32).toInt8.toInt32))
set_option maxRecDepth 65536 in
set_option maxHeartbeats 40000000 in
theorem rm19 (l : Launch) (Z : State) (a0 : Array Value) (hw : ∀ d ∈ tables_1, d.before a0 Z = true) (ws : List Jvm.Cond) (a1 : Addr) (p2 : Int32) (G1 : Int32) (bv : Addr) (f : Nat → Int32) (k : Nat) (h0 : Heap) (n0 : Nat) (Z0 : n0 ≤ h0.size) (O2 : Sta Z Z.heap "java/lang/String" "COMPACT_STRINGS" "Z" (.int G1)) (P3 : ¬ (G1 = (0 : Int32))) (OL : Old Z n0 h0) (E_a1_0 : Exa Z h0 a1 "java/lang/StringBuilder") (F_a1_value_0 : Fld Z h0 a1 "java/lang/AbstractStringBuilder" "value" "[B" (.ref bv)) (F_a1_coder_0 : Fld Z h0 a1 "java/lang/AbstractStringBuilder" "coder" "B" (.int (0 : Int32))) (F_a1_count_0 : Fld Z h0 a1 "java/lang/AbstractStringBuilder" "count" "I" (.int (Int32.ofNat k))) (A_bv_0 : Ari Z h0 bv .byte 6 f) (E_bv_0 : Exa Z h0 bv "[B") (ne_a1_bv : a1 ≠ bv) (ge_a1 : n0 ≤ a1) (ge_bv : n0 ≤ bv) (hk : k < 6) (hce : ¬ (f21 p2 = (0 : Int32))) :
    MetFree l (⟨"java/lang/AbstractStringBuilder", "append", "(C)Ljava/lang/AbstractStringBuilder;"⟩ : MethodName) (head1 (Jvm.Cond.code (⟨"java/lang/AbstractStringBuilder", "append", "(C)Ljava/lang/AbstractStringBuilder;"⟩ : MethodName) jdk_68_method_31_code 2 (some (.object "java/lang/AbstractStringBuilder")) :: ws) ({ frames := 1, cells := 0, slots := 0, locals := 14 } : Room)) (fun a U => a = #[(.ref a1), (.int p2)] ∧ Z.Warmed39 U.vm ∧ U.heap = h0) (fun _ _ _ _ _ => True) (fun _ U o U' => ∃ v L, o = .returned v ∧ Q19 Z a1 p2 G1 bv f k h0 n0 v U'.heap L ∧ FrameEnd U o U' L ({ frames := 1, cells := 0, slots := 0, locals := 14 } : Room).cells ({ frames := 1, cells := 0, slots := 0, locals := 14 } : Room).slots) := by
  refine MetFree.of_bodySF (plainFor_of_name pn_19) hisR ?_
  intro p e s m args below meth c s₁ Bd hml0 hP hK
  obtain ⟨rfl, hZ, hh⟩ := hP
  have hx := Bd.exec
  have hby := Bd.bytes
  have hlk := Bd.notSynchronized
  have hml : c.maxLocals = 2 := hml0
  have hown : s.vm.findClass "java/lang/AbstractStringBuilder" = some m.cls := findClass_of_methodNamed Bd.named
  have hnm := (name_of_methodNamed Bd.named Bd.method).1
  have X0 : Stand p l e ({ frames := 1, cells := 0, slots := 0, locals := 14 } : Room) s m #[(.ref a1), (.int p2)] below meth c s₁ [] 0 0 := Stand.of_body Bd
  have e0 : s₁.heap = h0 := by rw [← hh, Bd.state]; rfl
  have N0 := Fr.nil n0
  have K0 : Keep h0 h0 [a1, bv] := Keep.refl h0 _
  show Goes p e below s ({ frames := 1, cells := 0, slots := 0, locals := 14 } : Room).cells ({ frames := 1, cells := 0, slots := 0, locals := 14 } : Room).slots (Q19 Z a1 p2 G1 bv f k h0 n0) s₁ (entryFrame m #[(.ref a1), (.int p2)] 2)
  refine Goes.step (fun t k => castTop (ef_19 m a1 p2) k) ?_
  refine Goes.step (fun _ k => XS.aloadN X0.here hx rfl (hb hby d19_0) rfl rfl k) ?_
  show Goes p e below s _ _ _ s₁ (mkF m 1 #[.val (.ref a1), .val (.int p2)] [(.ref a1)])
  refine Goes.step (fun _ k => XS.aloadN X0.here hx rfl (hb hby d19_1) rfl rfl k) ?_
  show Goes p e below s _ _ _ s₁ (mkF m 2 #[.val (.ref a1), .val (.int p2)] [(.ref a1), (.ref a1)])
  obtain ⟨T1, X1, e1, st1⟩ := getF X0 hx hZ hown (host := "") (Or.inl (hw _ (List.mem_of_getElem? (i := 56) rfl))) Via.refl e0 F_a1_count_0 (g := (mkF m 2 #[.val (.ref a1), .val (.int p2)] [(.ref a1), (.ref a1)])) rfl rfl (hb hby d19_2)
  refine Goes.step st1 ?_
  show Goes p e below s _ _ _ T1 (mkF m 5 #[.val (.ref a1), .val (.int p2)] [(.int (Int32.ofNat k)), (.ref a1)])
  refine Goes.step (fun _ k => XS.iconst X1.here hx rfl (hb hby d19_5) k) ?_
  show Goes p e below s _ _ _ T1 (mkF m 6 #[.val (.ref a1), .val (.int p2)] [(.int (1 : Int32)), (.int (Int32.ofNat k)), (.ref a1)])
  refine Goes.step (fun _ k => XS.iadd X1.here hx rfl (hb hby d19_6) rfl k) ?_
  show Goes p e below s _ _ _ T1 (mkF m 7 #[.val (.ref a1), .val (.int p2)] [(.int ((Int32.ofNat k) + (1 : Int32))), (.ref a1)])
  obtain ⟨T2, X2, e2, st2⟩ := own_pure (r := none) (fun _ _ _ q => q) (callXV X1 hx hZ (C := "java/lang/StringBuilder") (b := a1) (y := (⟨"java/lang/AbstractStringBuilder", "ensureCapacityInternal", "(I)V"⟩ : MethodName)) (z := (⟨"java/lang/AbstractStringBuilder", "ensureCapacityInternal", "(I)V"⟩ : MethodName)) hown (hw _ (List.mem_of_getElem? (i := 58) rfl)) (own_declares (hw _ (List.mem_of_getElem? (i := 59) rfl)) (hw _ (List.mem_of_getElem? (i := 62) rfl))) (hw _ (List.mem_of_getElem? (i := 61) rfl)) (hw _ (List.mem_of_getElem? (i := 59) rfl)) (hw _ (List.mem_of_getElem? (i := 62) rfl)) (hw _ (List.mem_of_getElem? (i := 15) rfl)) (notFace_of_selects (args := #[]) (mvT hZ (hw _ (List.mem_of_getElem? (i := 61) rfl)))) (by decide) (W := 0) (argsL := [(.int ((Int32.ofNat k) + (1 : Int32)))]) (rest := []) (rm9 l Z a0 hw [] a1 ((Int32.ofNat k) + (1 : Int32)) bv f h0 n0 Z0 F_a1_value_0 F_a1_coder_0 A_bv_0 (own_cap k hk)) (by decide) (by decide) (by decide) (by decide) e1 E_a1_0 (g := (mkF m 7 #[.val (.ref a1), .val (.int p2)] [(.int ((Int32.ofNat k) + (1 : Int32))), (.ref a1)])) rfl (by rw [hml]; rfl) (lenOf pd_19_0 rfl) rfl (by show 2 * 0 + _ ≤ _; exact Nat.le_of_eq rfl) (hb hby d19_7))
  refine Goes.step st2 ?_
  show Goes p e below s _ _ _ T2 (mkF m 10 #[.val (.ref a1), .val (.int p2)] [])
  refine Goes.step (fun _ k => XS.aloadN X2.here hx rfl (hb hby d19_10) rfl rfl k) ?_
  show Goes p e below s _ _ _ T2 (mkF m 11 #[.val (.ref a1), .val (.int p2)] [(.ref a1)])
  obtain ⟨T3, X3, e3, st3⟩ := own_pure (r := some (.int (1 : Int32))) (fun _ _ _ q => q) (callXV X2 hx hZ (C := "java/lang/StringBuilder") (b := a1) (y := (⟨"java/lang/AbstractStringBuilder", "isLatin1", "()Z"⟩ : MethodName)) (z := (⟨"java/lang/AbstractStringBuilder", "isLatin1", "()Z"⟩ : MethodName)) hown (hw _ (List.mem_of_getElem? (i := 115) rfl)) (hw _ (List.mem_of_getElem? (i := 116) rfl)) (hw _ (List.mem_of_getElem? (i := 118) rfl)) (hw _ (List.mem_of_getElem? (i := 117) rfl)) (hw _ (List.mem_of_getElem? (i := 119) rfl)) (hw _ (List.mem_of_getElem? (i := 15) rfl)) (notFace_of_selects (args := #[]) (mvT hZ (hw _ (List.mem_of_getElem? (i := 118) rfl)))) (by decide) (W := 0) (argsL := []) (rest := []) (rm20 l Z a0 hw [] a1 G1 h0 n0 Z0 O2 P3 (OL.keep K0 (allS ge_a1 (allS ge_bv all0))) F_a1_coder_0) (by decide) (by decide) (by decide) (by decide) e2 E_a1_0 (g := (mkF m 11 #[.val (.ref a1), .val (.int p2)] [(.ref a1)])) rfl (by rw [hml]; rfl) (lenOf pd_19_1 rfl) rfl (by show 2 * 0 + _ ≤ _; exact Nat.le_of_eq rfl) (hb hby d19_11))
  refine Goes.step st3 ?_
  show Goes p e below s _ _ _ T3 (mkF m 14 #[.val (.ref a1), .val (.int p2)] [(.int (1 : Int32))])
  refine Goes.step (fun _ k => XS.ifNo X3.here hx rfl (hb hby d19_14) rfl ((if0 _ _).trans (feq (by decide : ¬ ((1 : Int32) = (0 : Int32)))).1) k) ?_
  show Goes p e below s _ _ _ T3 (mkF m 17 #[.val (.ref a1), .val (.int p2)] [])
  refine Goes.step (fun _ k => XS.iloadN X3.here hx rfl (hb hby d19_17) rfl k) ?_
  show Goes p e below s _ _ _ T3 (mkF m 18 #[.val (.ref a1), .val (.int p2)] [(.int p2)])
  obtain ⟨T4, X4, e4, st4⟩ := callPure X3 hx hZ (y := (⟨"java/lang/StringLatin1", "canEncode", "(C)Z"⟩ : MethodName)) hown (hw _ (List.mem_of_getElem? (i := 120) rfl)) (hw _ (List.mem_of_getElem? (i := 121) rfl)) (hw _ (List.mem_of_getElem? (i := 96) rfl)) (hw _ (List.mem_of_getElem? (i := 122) rfl)) (by decide) (W := 0) (argsL := [(.int p2)]) (rest := []) (r := (.int (f21 p2))) (fun _ _ _ q => q) (rm21 l Z a0 hw [] p2 h0 ) (by decide) (by decide) (by decide) (by decide) e3 (g := (mkF m 18 #[.val (.ref a1), .val (.int p2)] [(.int p2)])) rfl (by rw [hml]; rfl) (lenOf pd_19_2 rfl) rfl (by show 2 * 0 + _ ≤ _; exact Nat.le_of_eq rfl) (hb hby d19_18)
  refine Goes.step st4 ?_
  show Goes p e below s _ _ _ T4 (mkF m 21 #[.val (.ref a1), .val (.int p2)] [(.int (f21 p2))])
  refine Goes.step (fun _ k => XS.ifNo X4.here hx rfl (hb hby d19_21) rfl ((if0 _ _).trans (feq hce).1) k) ?_
  show Goes p e below s _ _ _ T4 (mkF m 24 #[.val (.ref a1), .val (.int p2)] [])
  refine Goes.step (fun _ k => XS.aloadN X4.here hx rfl (hb hby d19_24) rfl rfl k) ?_
  show Goes p e below s _ _ _ T4 (mkF m 25 #[.val (.ref a1), .val (.int p2)] [(.ref a1)])
  obtain ⟨T5, X5, e5, st5⟩ := getF X4 hx hZ hown (host := "") (Or.inl (hw _ (List.mem_of_getElem? (i := 23) rfl))) Via.refl e4 F_a1_value_0 (g := (mkF m 25 #[.val (.ref a1), .val (.int p2)] [(.ref a1)])) rfl rfl (hb hby d19_25)
  refine Goes.step st5 ?_
  show Goes p e below s _ _ _ T5 (mkF m 28 #[.val (.ref a1), .val (.int p2)] [(.ref bv)])
  refine Goes.step (fun _ k => XS.aloadN X5.here hx rfl (hb hby d19_28) rfl rfl k) ?_
  show Goes p e below s _ _ _ T5 (mkF m 29 #[.val (.ref a1), .val (.int p2)] [(.ref a1), (.ref bv)])
  refine Goes.step (fun _ k => XS.dup X5.here hx rfl (hb hby d19_29) rfl rfl k) ?_
  show Goes p e below s _ _ _ T5 (mkF m 30 #[.val (.ref a1), .val (.int p2)] [(.ref a1), (.ref a1), (.ref bv)])
  obtain ⟨T6, X6, e6, st6⟩ := getF X5 hx hZ hown (host := "") (Or.inl (hw _ (List.mem_of_getElem? (i := 56) rfl))) Via.refl e5 F_a1_count_0 (g := (mkF m 30 #[.val (.ref a1), .val (.int p2)] [(.ref a1), (.ref a1), (.ref bv)])) rfl rfl (hb hby d19_30)
  refine Goes.step st6 ?_
  show Goes p e below s _ _ _ T6 (mkF m 33 #[.val (.ref a1), .val (.int p2)] [(.int (Int32.ofNat k)), (.ref a1), (.ref bv)])
  refine Goes.step (fun _ k => XS.dupX1 X6.here hx rfl (hb hby d19_33) rfl rfl rfl k) ?_
  show Goes p e below s _ _ _ T6 (mkF m 34 #[.val (.ref a1), .val (.int p2)] [(.int (Int32.ofNat k)), (.ref a1), (.int (Int32.ofNat k)), (.ref bv)])
  refine Goes.step (fun _ k => XS.iconst X6.here hx rfl (hb hby d19_34) k) ?_
  show Goes p e below s _ _ _ T6 (mkF m 35 #[.val (.ref a1), .val (.int p2)] [(.int (1 : Int32)), (.int (Int32.ofNat k)), (.ref a1), (.int (Int32.ofNat k)), (.ref bv)])
  refine Goes.step (fun _ k => XS.iadd X6.here hx rfl (hb hby d19_35) rfl k) ?_
  show Goes p e below s _ _ _ T6 (mkF m 36 #[.val (.ref a1), .val (.int p2)] [(.int ((Int32.ofNat k) + (1 : Int32))), (.ref a1), (.int (Int32.ofNat k)), (.ref bv)])
  obtain ⟨T7, h7, X7, e7, W7, st7⟩ := putF X6 hx hZ hown (host := "") (Or.inl (hw _ (List.mem_of_getElem? (i := 56) rfl))) Via.refl e6 F_a1_count_0 E_a1_0 (Or.inl (hw _ (List.mem_of_getElem? (i := 57) rfl))) (hw _ (List.mem_of_getElem? (i := 6) rfl)) (ty := .int) (by decide) rfl rfl (g := (mkF m 36 #[.val (.ref a1), .val (.int p2)] [(.int ((Int32.ofNat k) + (1 : Int32))), (.ref a1), (.int (Int32.ofNat k)), (.ref bv)])) rfl rfl (hb hby d19_36)
  refine Goes.step st7 ?_
  have E_a1_7 := E_a1_0.wr W7
  have F_a1_value_7 := F_a1_value_0.other W7 (Or.inr (slot_ne (Or.inl (hw _ (List.mem_of_getElem? (i := 24) rfl))) (Or.inl (hw _ (List.mem_of_getElem? (i := 57) rfl))) (by decide) (t := (.array .byte)) (t' := .int) (by decide) (by decide)))
  have F_a1_coder_7 := F_a1_coder_0.other W7 (Or.inr (slot_ne (Or.inl (hw _ (List.mem_of_getElem? (i := 26) rfl))) (Or.inl (hw _ (List.mem_of_getElem? (i := 57) rfl))) (by decide) (t := .byte) (t' := .int) (by decide) (by decide)))
  have A_bv_7 := A_bv_0.other W7 (Ne.symm ne_a1_bv)
  have E_bv_7 := E_bv_0.wr W7
  have z_7 : n0 ≤ h7.size := by rw [W7.size]; exact Z0
  have K_7 : Keep h0 h7 [a1, bv] := K0.wr W7 (Or.inl (List.mem_of_getElem? (i := 0) rfl))
  have N_7 := Fr.snoc X7 N0 ge_a1
  have F_a1_count_7 : Fld Z h7 a1 "java/lang/AbstractStringBuilder" "count" "I" (.int ((Int32.ofNat k) + (1 : Int32))) := F_a1_count_0.same W7
  show Goes p e below s _ _ _ T7 (mkF m 39 #[.val (.ref a1), .val (.int p2)] [(.int (Int32.ofNat k)), (.ref bv)])
  refine Goes.step (fun _ k => XS.iloadN X7.here hx rfl (hb hby d19_39) rfl k) ?_
  show Goes p e below s _ _ _ T7 (mkF m 40 #[.val (.ref a1), .val (.int p2)] [(.int p2), (.int (Int32.ofNat k)), (.ref bv)])
  refine Goes.step (fun _ k => XS.i2b X7.here hx rfl (hb hby d19_40) rfl k) ?_
  show Goes p e below s _ _ _ T7 (mkF m 41 #[.val (.ref a1), .val (.int p2)] [(.int (p2.toInt8.toInt32)), (.int (Int32.ofNat k)), (.ref bv)])
  obtain ⟨T8, h8, X8, e8, W8, A8, st8⟩ := stoB X7 hx hZ e7 A_bv_7 (k) rfl hk (g := (mkF m 41 #[.val (.ref a1), .val (.int p2)] [(.int (p2.toInt8.toInt32)), (.int (Int32.ofNat k)), (.ref bv)])) rfl rfl (hb hby d19_41)
  refine Goes.step st8 ?_
  have E_a1_8 := E_a1_7.wr W8
  have F_a1_value_8 := F_a1_value_7.other W8 (Or.inl ne_a1_bv)
  have F_a1_coder_8 := F_a1_coder_7.other W8 (Or.inl ne_a1_bv)
  have F_a1_count_8 := F_a1_count_7.other W8 (Or.inl ne_a1_bv)
  have E_bv_8 := E_bv_7.wr W8
  have z_8 : n0 ≤ h8.size := by rw [W8.size]; exact z_7
  have K_8 : Keep h0 h8 [a1, bv] := K_7.wr W8 (Or.inl (List.mem_of_getElem? (i := 1) rfl))
  have N_8 := Fr.snoc X8 N_7 ge_bv
  have A_bv_8 : Ari Z h8 bv .byte (6) (updI f (k) ((p2.toInt8.toInt32).toInt8.toInt32)) := A8
  show Goes p e below s _ _ _ T8 (mkF m 42 #[.val (.ref a1), .val (.int p2)] [])
  refine Goes.step (fun _ k => XS.goto X8.here hx rfl (pc0 := 42) (pc' := 75) rfl (hb hby d19_42) (by decide) (by decide) k) ?_
  show Goes p e below s _ _ _ T8 (mkF m 75 #[.val (.ref a1), .val (.int p2)] [])
  refine Goes.step (fun _ k => XS.aloadN X8.here hx rfl (hb hby d19_75) rfl rfl k) ?_
  show Goes p e below s _ _ _ T8 (mkF m 76 #[.val (.ref a1), .val (.int p2)] [(.ref a1)])
  exact Goes.outR X8 hx hlk Bd.returns rfl rfl (hb hby d19_76) (by rw [e8]; exact ⟨rfl, N_8, K_8, F_a1_value_8, F_a1_coder_8, F_a1_count_8, A_bv_8⟩) (by decide) (by decide)
theorem d18_0 : decode jdk_67_method_14_code 0 = .ok (.aload_n 0, 1) := by decide +kernel
theorem d18_1 : decode jdk_67_method_14_code 1 = .ok (.iload_n 1, 1) := by decide +kernel
theorem d18_2 : decode jdk_67_method_14_code 2 = .ok (.invokespecial 50, 3) := by decide +kernel
theorem d18_5 : decode jdk_67_method_14_code 5 = .ok (.pop, 1) := by decide +kernel
theorem d18_6 : decode jdk_67_method_14_code 6 = .ok (.aload_n 0, 1) := by decide +kernel
theorem d18_7 : decode jdk_67_method_14_code 7 = .ok (.areturn, 1) := by decide +kernel
theorem pn_18 : plainName "java/lang/StringBuilder" = true := by first | (simp [plainName, overriddenIn]; done) | decide +kernel
theorem pd_18_0 : parseMethodDescriptor "(C)Ljava/lang/AbstractStringBuilder;" = some ⟨[.char], some (.object "java/lang/AbstractStringBuilder")⟩ := by decide +kernel
theorem ef_18 (m : MethodId) (a1 : Addr) (p2 : Int32) : entryFrame m #[(.ref a1), (.int p2)] 2 = mkF m 0 #[.val (.ref a1), .val (.int p2)] [] := by first | (simp [entryFrame, mkF, argsToLocals, Value.category]; done) | rfl
def Q18 (Z : State) (a1 : Addr) (p2 : Int32) (G1 : Int32) (bv : Addr) (f : Nat → Int32) (k : Nat) (h0 : Heap) (n0 : Nat) (v : Option Value) (h : Heap) (L : List Loc) : Prop := v = some (.ref a1) ∧ Fr n0 L ∧ Keep h0 h [a1, bv] ∧ Fld Z h a1 "java/lang/AbstractStringBuilder" "value" "[B" (.ref bv) ∧ Fld Z h a1 "java/lang/AbstractStringBuilder" "coder" "B" (.int (0 : Int32)) ∧ Fld Z h a1 "java/lang/AbstractStringBuilder" "count" "I" (.int ((Int32.ofNat k) + (1 : Int32))) ∧ Ari Z h bv .byte 6 (updI f k ((p2.toInt8.toInt32).toInt8.toInt32))
set_option maxRecDepth 65536 in
set_option maxHeartbeats 40000000 in
theorem rm18 (l : Launch) (Z : State) (a0 : Array Value) (hw : ∀ d ∈ tables_1, d.before a0 Z = true) (ws : List Jvm.Cond) (a1 : Addr) (p2 : Int32) (G1 : Int32) (bv : Addr) (f : Nat → Int32) (k : Nat) (h0 : Heap) (n0 : Nat) (Z0 : n0 ≤ h0.size) (O2 : Sta Z Z.heap "java/lang/String" "COMPACT_STRINGS" "Z" (.int G1)) (P3 : ¬ (G1 = (0 : Int32))) (OL : Old Z n0 h0) (E_a1_0 : Exa Z h0 a1 "java/lang/StringBuilder") (F_a1_value_0 : Fld Z h0 a1 "java/lang/AbstractStringBuilder" "value" "[B" (.ref bv)) (F_a1_coder_0 : Fld Z h0 a1 "java/lang/AbstractStringBuilder" "coder" "B" (.int (0 : Int32))) (F_a1_count_0 : Fld Z h0 a1 "java/lang/AbstractStringBuilder" "count" "I" (.int (Int32.ofNat k))) (A_bv_0 : Ari Z h0 bv .byte 6 f) (E_bv_0 : Exa Z h0 bv "[B") (ne_a1_bv : a1 ≠ bv) (ge_a1 : n0 ≤ a1) (ge_bv : n0 ≤ bv) (hk : k < 6) (hce : ¬ (f21 p2 = (0 : Int32))) :
    MetFree l (⟨"java/lang/StringBuilder", "append", "(C)Ljava/lang/StringBuilder;"⟩ : MethodName) (head1 (Jvm.Cond.code (⟨"java/lang/StringBuilder", "append", "(C)Ljava/lang/StringBuilder;"⟩ : MethodName) jdk_67_method_14_code 2 (some (.object "java/lang/StringBuilder")) :: ws) ({ frames := 2, cells := 0, slots := 0, locals := 27 } : Room)) (fun a U => a = #[(.ref a1), (.int p2)] ∧ Z.Warmed39 U.vm ∧ U.heap = h0) (fun _ _ _ _ _ => True) (fun _ U o U' => ∃ v L, o = .returned v ∧ Q18 Z a1 p2 G1 bv f k h0 n0 v U'.heap L ∧ FrameEnd U o U' L ({ frames := 2, cells := 0, slots := 0, locals := 27 } : Room).cells ({ frames := 2, cells := 0, slots := 0, locals := 27 } : Room).slots) := by
  refine MetFree.of_bodySF (plainFor_of_name pn_18) hisR ?_
  intro p e s m args below meth c s₁ Bd hml0 hP hK
  obtain ⟨rfl, hZ, hh⟩ := hP
  have hx := Bd.exec
  have hby := Bd.bytes
  have hlk := Bd.notSynchronized
  have hml : c.maxLocals = 2 := hml0
  have hown : s.vm.findClass "java/lang/StringBuilder" = some m.cls := findClass_of_methodNamed Bd.named
  have hnm := (name_of_methodNamed Bd.named Bd.method).1
  have X0 : Stand p l e ({ frames := 2, cells := 0, slots := 0, locals := 27 } : Room) s m #[(.ref a1), (.int p2)] below meth c s₁ [] 0 0 := Stand.of_body Bd
  have e0 : s₁.heap = h0 := by rw [← hh, Bd.state]; rfl
  have N0 := Fr.nil n0
  have K0 : Keep h0 h0 [a1, bv] := Keep.refl h0 _
  show Goes p e below s ({ frames := 2, cells := 0, slots := 0, locals := 27 } : Room).cells ({ frames := 2, cells := 0, slots := 0, locals := 27 } : Room).slots (Q18 Z a1 p2 G1 bv f k h0 n0) s₁ (entryFrame m #[(.ref a1), (.int p2)] 2)
  refine Goes.step (fun t k => castTop (ef_18 m a1 p2) k) ?_
  refine Goes.step (fun _ k => XS.aloadN X0.here hx rfl (hb hby d18_0) rfl rfl k) ?_
  show Goes p e below s _ _ _ s₁ (mkF m 1 #[.val (.ref a1), .val (.int p2)] [(.ref a1)])
  refine Goes.step (fun _ k => XS.iloadN X0.here hx rfl (hb hby d18_1) rfl k) ?_
  show Goes p e below s _ _ _ s₁ (mkF m 2 #[.val (.ref a1), .val (.int p2)] [(.int p2), (.ref a1)])
  obtain ⟨v1, T1, h1, L1, X1, e1, Q1, st1⟩ := callXS X0 hx hZ (b := a1) (y := (⟨"java/lang/AbstractStringBuilder", "append", "(C)Ljava/lang/AbstractStringBuilder;"⟩ : MethodName)) hown (hw _ (List.mem_of_getElem? (i := 111) rfl)) (own_sameM (y := (⟨"java/lang/AbstractStringBuilder", "append", "(C)Ljava/lang/AbstractStringBuilder;"⟩ : MethodName)) (hw _ (List.mem_of_getElem? (i := 112) rfl)) (hw _ (List.mem_of_getElem? (i := 61) rfl)) rfl (by decide)) (hw _ (List.mem_of_getElem? (i := 112) rfl)) (hw _ (List.mem_of_getElem? (i := 40) rfl)) (hw _ (List.mem_of_getElem? (i := 114) rfl)) (hw _ (List.mem_of_getElem? (i := 15) rfl)) (by decide) (W := 0) (argsL := [(.int p2)]) (rest := []) (rm19 l Z a0 hw [] a1 p2 G1 bv f k h0 n0 Z0 O2 P3 (OL.keep K0 (allS ge_a1 (allS ge_bv all0))) E_a1_0 F_a1_value_0 F_a1_coder_0 F_a1_count_0 A_bv_0 E_bv_0 ne_a1_bv ge_a1 ge_bv hk hce) (by decide) (by decide) (by decide) (by decide) e0 E_a1_0 (g := (mkF m 2 #[.val (.ref a1), .val (.int p2)] [(.int p2), (.ref a1)])) rfl (by rw [hml]; rfl) (lenOf pd_18_0 rfl) rfl (by show 2 * 0 + _ ≤ _; exact Nat.le_of_eq rfl) (hb hby d18_2)
  obtain ⟨rfl, NQ1, KQ1, hV1, hC1, hN1, hA1⟩ := Q1
  refine Goes.step st1 ?_
  have E_a1_1 := E_a1_0.keep KQ1
  have E_bv_1 := E_bv_0.keep KQ1
  have z_1 : n0 ≤ h1.size := Nat.le_trans Z0 KQ1.1
  have K_1 : Keep h0 h1 [a1, bv] := Keep.trans K0 KQ1 (allS (Or.inl (List.mem_of_getElem? (i := 0) rfl)) (allS (Or.inl (List.mem_of_getElem? (i := 1) rfl)) all0))
  have N_1 := Fr.app N0 NQ1
  show Goes p e below s _ _ _ T1 (mkF m 5 #[.val (.ref a1), .val (.int p2)] [(.ref a1)])
  refine Goes.step (fun _ k => XS.pop X1.here hx rfl (hb hby d18_5) rfl rfl k) ?_
  show Goes p e below s _ _ _ T1 (mkF m 6 #[.val (.ref a1), .val (.int p2)] [])
  refine Goes.step (fun _ k => XS.aloadN X1.here hx rfl (hb hby d18_6) rfl rfl k) ?_
  show Goes p e below s _ _ _ T1 (mkF m 7 #[.val (.ref a1), .val (.int p2)] [(.ref a1)])
  exact Goes.outR X1 hx hlk Bd.returns rfl rfl (hb hby d18_7) (by rw [e1]; exact ⟨rfl, N_1, K_1, hV1, hC1, hN1, hA1⟩) (by decide) (by decide)
theorem d25_0 : decode jdk_68_method_64_code 0 = .ok (.aload_n 0, 1) := by decide +kernel
theorem d25_1 : decode jdk_68_method_64_code 1 = .ok (.getfield 15, 3) := by decide +kernel
theorem d25_4 : decode jdk_68_method_64_code 4 = .ok (.areturn, 1) := by decide +kernel
theorem pn_25 : plainName "java/lang/AbstractStringBuilder" = true := by first | (simp [plainName, overriddenIn]; done) | decide +kernel
theorem ef_25 (m : MethodId) (a1 : Addr) : entryFrame m #[(.ref a1)] 1 = mkF m 0 #[.val (.ref a1)] [] := by first | (simp [entryFrame, mkF, argsToLocals, Value.category]; done) | rfl
def Q25 (Z : State) (a1 : Addr) (bv : Addr) (h0 : Heap) (n0 : Nat) (v : Option Value) (h : Heap) (L : List Loc) : Prop := PQ h0 (some (.ref bv)) v h L
set_option maxRecDepth 65536 in
set_option maxHeartbeats 40000000 in
theorem rm25 (l : Launch) (Z : State) (a0 : Array Value) (hw : ∀ d ∈ tables_1, d.before a0 Z = true) (ws : List Jvm.Cond) (a1 : Addr) (bv : Addr) (h0 : Heap) (n0 : Nat) (Z0 : n0 ≤ h0.size) (F_a1_value_0 : Fld Z h0 a1 "java/lang/AbstractStringBuilder" "value" "[B" (.ref bv)) :
    MetFree l (⟨"java/lang/AbstractStringBuilder", "getValue", "()[B"⟩ : MethodName) (head1 (Jvm.Cond.code (⟨"java/lang/AbstractStringBuilder", "getValue", "()[B"⟩ : MethodName) jdk_68_method_64_code 1 (some (.array .byte)) :: ws) ({ frames := 0, cells := 0, slots := 0, locals := 0 } : Room)) (fun a U => a = #[(.ref a1)] ∧ Z.Warmed39 U.vm ∧ U.heap = h0) (fun _ _ _ _ _ => True) (fun _ U o U' => ∃ v L, o = .returned v ∧ Q25 Z a1 bv h0 n0 v U'.heap L ∧ FrameEnd U o U' L ({ frames := 0, cells := 0, slots := 0, locals := 0 } : Room).cells ({ frames := 0, cells := 0, slots := 0, locals := 0 } : Room).slots) := by
  refine MetFree.of_bodySF (plainFor_of_name pn_25) hisR ?_
  intro p e s m args below meth c s₁ Bd hml0 hP hK
  obtain ⟨rfl, hZ, hh⟩ := hP
  have hx := Bd.exec
  have hby := Bd.bytes
  have hlk := Bd.notSynchronized
  have hml : c.maxLocals = 1 := hml0
  have hown : s.vm.findClass "java/lang/AbstractStringBuilder" = some m.cls := findClass_of_methodNamed Bd.named
  have hnm := (name_of_methodNamed Bd.named Bd.method).1
  have X0 : Stand p l e ({ frames := 0, cells := 0, slots := 0, locals := 0 } : Room) s m #[(.ref a1)] below meth c s₁ [] 0 0 := Stand.of_body Bd
  have e0 : s₁.heap = h0 := by rw [← hh, Bd.state]; rfl
  have N0 := Fr.nil n0
  have K0 : Keep h0 h0 [] := Keep.refl h0 _
  show Goes p e below s ({ frames := 0, cells := 0, slots := 0, locals := 0 } : Room).cells ({ frames := 0, cells := 0, slots := 0, locals := 0 } : Room).slots (Q25 Z a1 bv h0 n0) s₁ (entryFrame m #[(.ref a1)] 1)
  refine Goes.step (fun t k => castTop (ef_25 m a1) k) ?_
  refine Goes.step (fun _ k => XS.aloadN X0.here hx rfl (hb hby d25_0) rfl rfl k) ?_
  show Goes p e below s _ _ _ s₁ (mkF m 1 #[.val (.ref a1)] [(.ref a1)])
  obtain ⟨T1, X1, e1, st1⟩ := getF X0 hx hZ hown (host := "") (Or.inl (hw _ (List.mem_of_getElem? (i := 23) rfl))) Via.refl e0 F_a1_value_0 (g := (mkF m 1 #[.val (.ref a1)] [(.ref a1)])) rfl rfl (hb hby d25_1)
  refine Goes.step st1 ?_
  show Goes p e below s _ _ _ T1 (mkF m 4 #[.val (.ref a1)] [(.ref bv)])
  exact Goes.outR X1 hx hlk Bd.returns rfl rfl (hb hby d25_4) (by rw [e1]; exact ⟨rfl, rfl, rfl⟩) (by decide) (by decide)
theorem d27_0 : decode jdk_68_method_6_code 0 = .ok (.aload_n 0, 1) := by decide +kernel
theorem d27_1 : decode jdk_68_method_6_code 1 = .ok (.getfield 79, 3) := by decide +kernel
theorem d27_4 : decode jdk_68_method_6_code 4 = .ok (.ireturn, 1) := by decide +kernel
theorem pn_27 : plainName "java/lang/AbstractStringBuilder" = true := by first | (simp [plainName, overriddenIn]; done) | decide +kernel
theorem ef_27 (m : MethodId) (a1 : Addr) : entryFrame m #[(.ref a1)] 1 = mkF m 0 #[.val (.ref a1)] [] := by first | (simp [entryFrame, mkF, argsToLocals, Value.category]; done) | rfl
def Q27 (Z : State) (a1 : Addr) (cn : Int32) (h0 : Heap) (n0 : Nat) (v : Option Value) (h : Heap) (L : List Loc) : Prop := PQ h0 (some (.int cn)) v h L
set_option maxRecDepth 65536 in
set_option maxHeartbeats 40000000 in
theorem rm27 (l : Launch) (Z : State) (a0 : Array Value) (hw : ∀ d ∈ tables_1, d.before a0 Z = true) (ws : List Jvm.Cond) (a1 : Addr) (cn : Int32) (h0 : Heap) (n0 : Nat) (Z0 : n0 ≤ h0.size) (E_a1_0 : Exa Z h0 a1 "java/lang/StringBuilder") (F_a1_count_0 : Fld Z h0 a1 "java/lang/AbstractStringBuilder" "count" "I" (.int cn)) :
    MetFree l (⟨"java/lang/AbstractStringBuilder", "length", "()I"⟩ : MethodName) (head1 (Jvm.Cond.code (⟨"java/lang/AbstractStringBuilder", "length", "()I"⟩ : MethodName) jdk_68_method_6_code 1 (some .int) :: ws) ({ frames := 0, cells := 0, slots := 0, locals := 0 } : Room)) (fun a U => a = #[(.ref a1)] ∧ Z.Warmed39 U.vm ∧ U.heap = h0) (fun _ _ _ _ _ => True) (fun _ U o U' => ∃ v L, o = .returned v ∧ Q27 Z a1 cn h0 n0 v U'.heap L ∧ FrameEnd U o U' L ({ frames := 0, cells := 0, slots := 0, locals := 0 } : Room).cells ({ frames := 0, cells := 0, slots := 0, locals := 0 } : Room).slots) := by
  refine MetFree.of_bodySF (plainFor_of_name pn_27) hisR ?_
  intro p e s m args below meth c s₁ Bd hml0 hP hK
  obtain ⟨rfl, hZ, hh⟩ := hP
  have hx := Bd.exec
  have hby := Bd.bytes
  have hlk := Bd.notSynchronized
  have hml : c.maxLocals = 1 := hml0
  have hown : s.vm.findClass "java/lang/AbstractStringBuilder" = some m.cls := findClass_of_methodNamed Bd.named
  have hnm := (name_of_methodNamed Bd.named Bd.method).1
  have X0 : Stand p l e ({ frames := 0, cells := 0, slots := 0, locals := 0 } : Room) s m #[(.ref a1)] below meth c s₁ [] 0 0 := Stand.of_body Bd
  have e0 : s₁.heap = h0 := by rw [← hh, Bd.state]; rfl
  have N0 := Fr.nil n0
  have K0 : Keep h0 h0 [] := Keep.refl h0 _
  show Goes p e below s ({ frames := 0, cells := 0, slots := 0, locals := 0 } : Room).cells ({ frames := 0, cells := 0, slots := 0, locals := 0 } : Room).slots (Q27 Z a1 cn h0 n0) s₁ (entryFrame m #[(.ref a1)] 1)
  refine Goes.step (fun t k => castTop (ef_27 m a1) k) ?_
  refine Goes.step (fun _ k => XS.aloadN X0.here hx rfl (hb hby d27_0) rfl rfl k) ?_
  show Goes p e below s _ _ _ s₁ (mkF m 1 #[.val (.ref a1)] [(.ref a1)])
  obtain ⟨T1, X1, e1, st1⟩ := getF X0 hx hZ hown (host := "") (Or.inl (hw _ (List.mem_of_getElem? (i := 56) rfl))) Via.refl e0 F_a1_count_0 (g := (mkF m 1 #[.val (.ref a1)] [(.ref a1)])) rfl rfl (hb hby d27_1)
  refine Goes.step st1 ?_
  show Goes p e below s _ _ _ T1 (mkF m 4 #[.val (.ref a1)] [(.int cn)])
  exact Goes.outI X1 hx hlk Bd.returns (hb hby d27_4) (by rw [e1]; exact ⟨rfl, rfl, rfl⟩) (by decide) (by decide)
theorem d26_0 : decode jdk_67_method_93_code 0 = .ok (.aload_n 0, 1) := by decide +kernel
theorem d26_1 : decode jdk_67_method_93_code 1 = .ok (.invokespecial 343, 3) := by decide +kernel
theorem d26_4 : decode jdk_67_method_93_code 4 = .ok (.ireturn, 1) := by decide +kernel
theorem pn_26 : plainName "java/lang/StringBuilder" = true := by first | (simp [plainName, overriddenIn]; done) | decide +kernel
theorem pd_26_0 : parseMethodDescriptor "()I" = some ⟨[], some .int⟩ := by decide +kernel
theorem ef_26 (m : MethodId) (a1 : Addr) : entryFrame m #[(.ref a1)] 1 = mkF m 0 #[.val (.ref a1)] [] := by first | (simp [entryFrame, mkF, argsToLocals, Value.category]; done) | rfl
def Q26 (Z : State) (a1 : Addr) (cn : Int32) (h0 : Heap) (n0 : Nat) (v : Option Value) (h : Heap) (L : List Loc) : Prop := PQ h0 (some (.int cn)) v h L
set_option maxRecDepth 65536 in
set_option maxHeartbeats 40000000 in
theorem rm26 (l : Launch) (Z : State) (a0 : Array Value) (hw : ∀ d ∈ tables_1, d.before a0 Z = true) (ws : List Jvm.Cond) (a1 : Addr) (cn : Int32) (h0 : Heap) (n0 : Nat) (Z0 : n0 ≤ h0.size) (E_a1_0 : Exa Z h0 a1 "java/lang/StringBuilder") (F_a1_count_0 : Fld Z h0 a1 "java/lang/AbstractStringBuilder" "count" "I" (.int cn)) :
    MetFree l (⟨"java/lang/StringBuilder", "length", "()I"⟩ : MethodName) (head1 (Jvm.Cond.code (⟨"java/lang/StringBuilder", "length", "()I"⟩ : MethodName) jdk_67_method_93_code 1 (some .int) :: ws) ({ frames := 1, cells := 0, slots := 0, locals := 12 } : Room)) (fun a U => a = #[(.ref a1)] ∧ Z.Warmed39 U.vm ∧ U.heap = h0) (fun _ _ _ _ _ => True) (fun _ U o U' => ∃ v L, o = .returned v ∧ Q26 Z a1 cn h0 n0 v U'.heap L ∧ FrameEnd U o U' L ({ frames := 1, cells := 0, slots := 0, locals := 12 } : Room).cells ({ frames := 1, cells := 0, slots := 0, locals := 12 } : Room).slots) := by
  refine MetFree.of_bodySF (plainFor_of_name pn_26) hisR ?_
  intro p e s m args below meth c s₁ Bd hml0 hP hK
  obtain ⟨rfl, hZ, hh⟩ := hP
  have hx := Bd.exec
  have hby := Bd.bytes
  have hlk := Bd.notSynchronized
  have hml : c.maxLocals = 1 := hml0
  have hown : s.vm.findClass "java/lang/StringBuilder" = some m.cls := findClass_of_methodNamed Bd.named
  have hnm := (name_of_methodNamed Bd.named Bd.method).1
  have X0 : Stand p l e ({ frames := 1, cells := 0, slots := 0, locals := 12 } : Room) s m #[(.ref a1)] below meth c s₁ [] 0 0 := Stand.of_body Bd
  have e0 : s₁.heap = h0 := by rw [← hh, Bd.state]; rfl
  have N0 := Fr.nil n0
  have K0 : Keep h0 h0 [] := Keep.refl h0 _
  show Goes p e below s ({ frames := 1, cells := 0, slots := 0, locals := 12 } : Room).cells ({ frames := 1, cells := 0, slots := 0, locals := 12 } : Room).slots (Q26 Z a1 cn h0 n0) s₁ (entryFrame m #[(.ref a1)] 1)
  refine Goes.step (fun t k => castTop (ef_26 m a1) k) ?_
  refine Goes.step (fun _ k => XS.aloadN X0.here hx rfl (hb hby d26_0) rfl rfl k) ?_
  show Goes p e below s _ _ _ s₁ (mkF m 1 #[.val (.ref a1)] [(.ref a1)])
  obtain ⟨T1, X1, e1, st1⟩ := own_pure (r := some (.int cn)) (fun _ _ _ q => q) (callXS X0 hx hZ (b := a1) (y := (⟨"java/lang/AbstractStringBuilder", "length", "()I"⟩ : MethodName)) hown (hw _ (List.mem_of_getElem? (i := 148) rfl)) (own_sameM (y := (⟨"java/lang/AbstractStringBuilder", "length", "()I"⟩ : MethodName)) (hw _ (List.mem_of_getElem? (i := 144) rfl)) (hw _ (List.mem_of_getElem? (i := 61) rfl)) rfl (by decide)) (hw _ (List.mem_of_getElem? (i := 144) rfl)) (hw _ (List.mem_of_getElem? (i := 40) rfl)) (hw _ (List.mem_of_getElem? (i := 149) rfl)) (hw _ (List.mem_of_getElem? (i := 15) rfl)) (by decide) (W := 0) (argsL := []) (rest := []) (rm27 l Z a0 hw [] a1 cn h0 n0 Z0 E_a1_0 F_a1_count_0) (by decide) (by decide) (by decide) (by decide) e0 E_a1_0 (g := (mkF m 1 #[.val (.ref a1)] [(.ref a1)])) rfl (by rw [hml]; rfl) (lenOf pd_26_0 rfl) rfl (by show 2 * 0 + _ ≤ _; exact Nat.le_of_eq rfl) (hb hby d26_1))
  refine Goes.step st1 ?_
  show Goes p e below s _ _ _ T1 (mkF m 4 #[.val (.ref a1)] [(.int cn)])
  exact Goes.outI X1 hx hlk Bd.returns (hb hby d26_4) (by rw [e1]; exact ⟨rfl, rfl, rfl⟩) (by decide) (by decide)
theorem d28_0 : decode jdk_65_method_132_code 0 = .ok (.iload_n 1, 1) := by decide +kernel
theorem d28_1 : decode jdk_65_method_132_code 1 = .ok (.ifCond .ne 9, 3) := by decide +kernel
theorem d28_4 : decode jdk_65_method_132_code 4 = .ok (.iload_n 2, 1) := by decide +kernel
theorem d28_5 : decode jdk_65_method_132_code 5 = .ok (.aload_n 0, 1) := by decide +kernel
theorem d28_6 : decode jdk_65_method_132_code 6 = .ok (.arraylength, 1) := by decide +kernel
theorem d28_7 : decode jdk_65_method_132_code 7 = .ok (.if_icmp .eq 10, 3) := by decide +kernel
theorem d28_17 : decode jdk_65_method_132_code 17 = .ok (.aload_n 0, 1) := by decide +kernel
theorem d28_18 : decode jdk_65_method_132_code 18 = .ok (.invokevirtual 310, 3) := by decide +kernel
theorem d28_21 : decode jdk_65_method_132_code 21 = .ok (.checkcast 311, 3) := by decide +kernel
theorem d28_24 : decode jdk_65_method_132_code 24 = .ok (.areturn, 1) := by decide +kernel
theorem pn_28 : plainName "java/util/Arrays" = true := by first | (simp [plainName, overriddenIn]; done) | decide +kernel
theorem ef_28 (m : MethodId) (a1 : Addr) : entryFrame m #[(.ref a1), (.int (0 : Int32)), (.int (Int32.ofNat 6))] 3 = mkF m 0 #[.val (.ref a1), .val (.int (0 : Int32)), .val (.int (Int32.ofNat 6))] [] := by first | (simp [entryFrame, mkF, argsToLocals, Value.category]; done) | rfl
def Q28 (Z : State) (a1 : Addr) (f : Nat → Int32) (h0 : Heap) (n0 : Nat) (v : Option Value) (h : Heap) (L : List Loc) : Prop := ∃ o, v = some (.ref o) ∧ Fr n0 L ∧ Keep h0 h [] ∧ h0.size ≤ o ∧ Ari Z h o .byte 6 f
set_option maxRecDepth 65536 in
set_option maxHeartbeats 40000000 in
theorem rm28 (l : Launch) (Z : State) (a0 : Array Value) (hw : ∀ d ∈ tables_1, d.before a0 Z = true) (ws : List Jvm.Cond) (a1 : Addr) (f : Nat → Int32) (h0 : Heap) (n0 : Nat) (Z0 : n0 ≤ h0.size) (A_a1_0 : Ari Z h0 a1 .byte 6 f) (E_a1_0 : Exa Z h0 a1 "[B") :
    MetFree l (⟨"java/util/Arrays", "copyOfRange", "([BII)[B"⟩ : MethodName) (head1 (Jvm.Cond.code (⟨"java/util/Arrays", "copyOfRange", "([BII)[B"⟩ : MethodName) jdk_65_method_132_code 3 (some (.array .byte)) :: ws) ({ frames := 1, cells := 1, slots := 6, locals := 14 } : Room)) (fun a U => a = #[(.ref a1), (.int (0 : Int32)), (.int (Int32.ofNat 6))] ∧ Z.Warmed39 U.vm ∧ U.heap = h0) (fun _ _ _ _ _ => True) (fun _ U o U' => ∃ v L, o = .returned v ∧ Q28 Z a1 f h0 n0 v U'.heap L ∧ FrameEnd U o U' L ({ frames := 1, cells := 1, slots := 6, locals := 14 } : Room).cells ({ frames := 1, cells := 1, slots := 6, locals := 14 } : Room).slots) := by
  refine MetFree.of_bodySF (plainFor_of_name pn_28) hisR ?_
  intro p e s m args below meth c s₁ Bd hml0 hP hK
  obtain ⟨rfl, hZ, hh⟩ := hP
  have hx := Bd.exec
  have hby := Bd.bytes
  have hlk := Bd.notSynchronized
  have hml : c.maxLocals = 3 := hml0
  have hown : s.vm.findClass "java/util/Arrays" = some m.cls := findClass_of_methodNamed Bd.named
  have hnm := (name_of_methodNamed Bd.named Bd.method).1
  have X0 : Stand p l e ({ frames := 1, cells := 1, slots := 6, locals := 14 } : Room) s m #[(.ref a1), (.int (0 : Int32)), (.int (Int32.ofNat 6))] below meth c s₁ [] 0 0 := Stand.of_body Bd
  have e0 : s₁.heap = h0 := by rw [← hh, Bd.state]; rfl
  have N0 := Fr.nil n0
  have K0 : Keep h0 h0 [] := Keep.refl h0 _
  show Goes p e below s ({ frames := 1, cells := 1, slots := 6, locals := 14 } : Room).cells ({ frames := 1, cells := 1, slots := 6, locals := 14 } : Room).slots (Q28 Z a1 f h0 n0) s₁ (entryFrame m #[(.ref a1), (.int (0 : Int32)), (.int (Int32.ofNat 6))] 3)
  refine Goes.step (fun t k => castTop (ef_28 m a1) k) ?_
  refine Goes.step (fun _ k => XS.iloadN X0.here hx rfl (hb hby d28_0) rfl k) ?_
  show Goes p e below s _ _ _ s₁ (mkF m 1 #[.val (.ref a1), .val (.int (0 : Int32)), .val (.int (Int32.ofNat 6))] [(.int (0 : Int32))])
  refine Goes.step (fun _ k => XS.ifNo X0.here hx rfl (hb hby d28_1) rfl ((if0 _ _).trans (teq (by decide : (0 : Int32) = (0 : Int32))).2) k) ?_
  show Goes p e below s _ _ _ s₁ (mkF m 4 #[.val (.ref a1), .val (.int (0 : Int32)), .val (.int (Int32.ofNat 6))] [])
  refine Goes.step (fun _ k => XS.iloadN X0.here hx rfl (hb hby d28_4) rfl k) ?_
  show Goes p e below s _ _ _ s₁ (mkF m 5 #[.val (.ref a1), .val (.int (0 : Int32)), .val (.int (Int32.ofNat 6))] [(.int (Int32.ofNat 6))])
  refine Goes.step (fun _ k => XS.aloadN X0.here hx rfl (hb hby d28_5) rfl rfl k) ?_
  show Goes p e below s _ _ _ s₁ (mkF m 6 #[.val (.ref a1), .val (.int (0 : Int32)), .val (.int (Int32.ofNat 6))] [(.ref a1), (.int (Int32.ofNat 6))])
  refine Goes.step (fun _ k => rdL X0 hx hZ e0 A_a1_0 (g := (mkF m 6 #[.val (.ref a1), .val (.int (0 : Int32)), .val (.int (Int32.ofNat 6))] [(.ref a1), (.int (Int32.ofNat 6))])) rfl rfl (hb hby d28_6) _ k) ?_
  show Goes p e below s _ _ _ s₁ (mkF m 7 #[.val (.ref a1), .val (.int (0 : Int32)), .val (.int (Int32.ofNat 6))] [(.int (Int32.ofNat 6)), (.int (Int32.ofNat 6))])
  refine Goes.step (fun _ k => XS.icmpYes X0.here hx rfl (pc0 := 7) (pc' := 17) rfl (hb hby d28_7) rfl (teq (by decide : (Int32.ofNat 6) = (Int32.ofNat 6))).1 (by decide) (by decide) k) ?_
  show Goes p e below s _ _ _ s₁ (mkF m 17 #[.val (.ref a1), .val (.int (0 : Int32)), .val (.int (Int32.ofNat 6))] [])
  refine Goes.step (fun _ k => XS.aloadN X0.here hx rfl (hb hby d28_17) rfl rfl k) ?_
  show Goes p e below s _ _ _ s₁ (mkF m 18 #[.val (.ref a1), .val (.int (0 : Int32)), .val (.int (Int32.ofNat 6))] [(.ref a1)])
  obtain ⟨T1, h1, X1, e1, E1, A1, EA1, st1⟩ := cloneI X0 hx hZ hown (hw _ (List.mem_of_getElem? (i := 155) rfl)) (hw _ (List.mem_of_getElem? (i := 156) rfl)) (hw _ (List.mem_of_getElem? (i := 160) rfl)) (hw _ (List.mem_of_getElem? (i := 158) rfl)) (hw _ (List.mem_of_getElem? (i := 159) rfl)) (hw _ (List.mem_of_getElem? (i := 161) rfl)) e0 A_a1_0 E_a1_0 (g := (mkF m 18 #[.val (.ref a1), .val (.int (0 : Int32)), .val (.int (Int32.ofNat 6))] [(.ref a1)])) rfl (by rw [hml]; rfl) (rest := []) rfl (hb hby d28_18) (by decide) (W := 0) (cap := 6) (by show 2 * 0 + _ ≤ _; exact Nat.le_of_eq rfl) (by decide) (by decide) (by decide) (by decide)
  obtain ⟨b1, g_1⟩ : ∃ z, z = h0.size := ⟨_, rfl⟩
  rw [← g_1] at A1 EA1 st1
  refine Goes.step st1 ?_
  have ne_a1_b1 : a1 ≠ b1 := Nat.ne_of_lt (by rw [g_1]; exact A_a1_0.lt)
  have ge_b1 : n0 ≤ b1 := by rw [g_1]; exact Z0
  have sz_b1 : h0.size ≤ b1 := by rw [g_1]; exact K0.1
  have A_a1_1 := A_a1_0.ext E1
  have E_a1_1 := E_a1_0.ext E1
  have z_1 : n0 ≤ h1.size := Nat.le_trans Z0 E1.1
  have K_1 : Keep h0 h1 [] := K0.ext E1
  show Goes p e below s _ _ _ T1 (mkF m 21 #[.val (.ref a1), .val (.int (0 : Int32)), .val (.int (Int32.ofNat 6))] [(.ref b1)])
  obtain ⟨T2, X2, e2, st2⟩ := castY X1 hx hZ hown (hw _ (List.mem_of_getElem? (i := 162) rfl)) e1 (Ins.self EA1) (g := (mkF m 21 #[.val (.ref a1), .val (.int (0 : Int32)), .val (.int (Int32.ofNat 6))] [(.ref b1)])) rfl rfl (hb hby d28_21)
  refine Goes.step st2 ?_
  show Goes p e below s _ _ _ T2 (mkF m 24 #[.val (.ref a1), .val (.int (0 : Int32)), .val (.int (Int32.ofNat 6))] [(.ref b1)])
  exact Goes.outR X2 hx hlk Bd.returns rfl rfl (hb hby d28_24) (by rw [e2]; exact ⟨b1, rfl, N0, K_1, sz_b1, A1⟩) (by decide) (by decide)
theorem d24_0 : decode jdk_42_method_150_code 0 = .ok (.aload_n 0, 1) := by decide +kernel
theorem d24_1 : decode jdk_42_method_150_code 1 = .ok (.invokespecial 1, 3) := by decide +kernel
theorem d24_4 : decode jdk_42_method_150_code 4 = .ok (.aload_n 1, 1) := by decide +kernel
theorem d24_5 : decode jdk_42_method_150_code 5 = .ok (.invokevirtual 552, 3) := by decide +kernel
theorem d24_8 : decode jdk_42_method_150_code 8 = .ok (.astore_n 3, 1) := by decide +kernel
theorem d24_9 : decode jdk_42_method_150_code 9 = .ok (.aload_n 1, 1) := by decide +kernel
theorem d24_10 : decode jdk_42_method_150_code 10 = .ok (.invokevirtual 549, 3) := by decide +kernel
theorem d24_13 : decode jdk_42_method_150_code 13 = .ok (.istore 4, 2) := by decide +kernel
theorem d24_15 : decode jdk_42_method_150_code 15 = .ok (.aload_n 1, 1) := by decide +kernel
theorem d24_16 : decode jdk_42_method_150_code 16 = .ok (.invokevirtual 1047, 3) := by decide +kernel
theorem d24_19 : decode jdk_42_method_150_code 19 = .ok (.ifCond .eq 22, 3) := by decide +kernel
theorem d24_22 : decode jdk_42_method_150_code 22 = .ok (.aload_n 0, 1) := by decide +kernel
theorem d24_23 : decode jdk_42_method_150_code 23 = .ok (.iconst 0, 1) := by decide +kernel
theorem d24_24 : decode jdk_42_method_150_code 24 = .ok (.putfield 15, 3) := by decide +kernel
theorem d24_27 : decode jdk_42_method_150_code 27 = .ok (.aload_n 0, 1) := by decide +kernel
theorem d24_28 : decode jdk_42_method_150_code 28 = .ok (.aload_n 3, 1) := by decide +kernel
theorem d24_29 : decode jdk_42_method_150_code 29 = .ok (.iconst 0, 1) := by decide +kernel
theorem d24_30 : decode jdk_42_method_150_code 30 = .ok (.iload 4, 2) := by decide +kernel
theorem d24_32 : decode jdk_42_method_150_code 32 = .ok (.invokestatic 54, 3) := by decide +kernel
theorem d24_35 : decode jdk_42_method_150_code 35 = .ok (.putfield 9, 3) := by decide +kernel
theorem d24_38 : decode jdk_42_method_150_code 38 = .ok (.goto 59, 3) := by decide +kernel
theorem d24_97 : decode jdk_42_method_150_code 97 = .ok (.return_, 1) := by decide +kernel
theorem pn_24 : plainName "java/lang/String" = true := by first | (simp [plainName, overriddenIn]; done) | decide +kernel
theorem pd_24_0 : parseMethodDescriptor "()[B" = some ⟨[], some (.array .byte)⟩ := by decide +kernel
theorem pd_24_1 : parseMethodDescriptor "()I" = some ⟨[], some .int⟩ := by decide +kernel
theorem pd_24_2 : parseMethodDescriptor "()Z" = some ⟨[], some .boolean⟩ := by decide +kernel
theorem pd_24_3 : parseMethodDescriptor "([BII)[B" = some ⟨[(.array .byte), .int, .int], some (.array .byte)⟩ := by decide +kernel
theorem ef_24 (m : MethodId) (a1 : Addr) (a2 : Addr) : entryFrame m #[(.ref a1), (.ref a2), .null] 5 = mkF m 0 #[.val (.ref a1), .val (.ref a2), .val .null, .unset, .unset] [] := by first | (simp [entryFrame, mkF, argsToLocals, Value.category]; done) | rfl
def Q24 (Z : State) (a1 : Addr) (a2 : Addr) (G1 : Int32) (bv : Addr) (f : Nat → Int32) (h0 : Heap) (n0 : Nat) (v : Option Value) (h : Heap) (L : List Loc) : Prop := v = none ∧ Fr n0 L ∧ Keep h0 h [a1] ∧ ∃ o, Fld Z h a1 "java/lang/String" "value" "[B" (.ref o) ∧ Fld Z h a1 "java/lang/String" "coder" "B" (.int (0 : Int32)) ∧ Ari Z h o .byte 6 f
set_option maxRecDepth 65536 in
set_option maxHeartbeats 40000000 in
theorem rm24 (l : Launch) (Z : State) (a0 : Array Value) (hw : ∀ d ∈ tables_1, d.before a0 Z = true) (ws : List Jvm.Cond) (a1 : Addr) (a2 : Addr) (G1 : Int32) (bv : Addr) (f : Nat → Int32) (h0 : Heap) (n0 : Nat) (Z0 : n0 ≤ h0.size) (O2 : Sta Z Z.heap "java/lang/String" "COMPACT_STRINGS" "Z" (.int G1)) (P3 : ¬ (G1 = (0 : Int32))) (OL : Old Z n0 h0) (E_a1_0 : Exa Z h0 a1 "java/lang/String") (F_a1_value_0 : Fld Z h0 a1 "java/lang/String" "value" "[B" .null) (F_a1_coder_0 : Fld Z h0 a1 "java/lang/String" "coder" "B" (.int (0 : Int32))) (E_a2_0 : Exa Z h0 a2 "java/lang/StringBuilder") (F_a2_value_0 : Fld Z h0 a2 "java/lang/AbstractStringBuilder" "value" "[B" (.ref bv)) (F_a2_coder_0 : Fld Z h0 a2 "java/lang/AbstractStringBuilder" "coder" "B" (.int (0 : Int32))) (F_a2_count_0 : Fld Z h0 a2 "java/lang/AbstractStringBuilder" "count" "I" (.int (Int32.ofNat 6))) (A_bv_0 : Ari Z h0 bv .byte 6 f) (E_bv_0 : Exa Z h0 bv "[B") (ge_a1 : n0 ≤ a1) (ne_a1_bv : a1 ≠ bv) :
    MetFree l (⟨"java/lang/String", "<init>", "(Ljava/lang/AbstractStringBuilder;Ljava/lang/Void;)V"⟩ : MethodName) (head1 (Jvm.Cond.code (⟨"java/lang/String", "<init>", "(Ljava/lang/AbstractStringBuilder;Ljava/lang/Void;)V"⟩ : MethodName) jdk_42_method_150_code 5 none :: ws) ({ frames := 2, cells := 1, slots := 6, locals := 29 } : Room)) (fun a U => a = #[(.ref a1), (.ref a2), .null] ∧ Z.Warmed39 U.vm ∧ U.heap = h0) (fun _ _ _ _ _ => True) (fun _ U o U' => ∃ v L, o = .returned v ∧ Q24 Z a1 a2 G1 bv f h0 n0 v U'.heap L ∧ FrameEnd U o U' L ({ frames := 2, cells := 1, slots := 6, locals := 29 } : Room).cells ({ frames := 2, cells := 1, slots := 6, locals := 29 } : Room).slots) := by
  refine MetFree.of_bodySF (plainFor_of_name pn_24) hisR ?_
  intro p e s m args below meth c s₁ Bd hml0 hP hK
  obtain ⟨rfl, hZ, hh⟩ := hP
  have hx := Bd.exec
  have hby := Bd.bytes
  have hlk := Bd.notSynchronized
  have hml : c.maxLocals = 5 := hml0
  have hown : s.vm.findClass "java/lang/String" = some m.cls := findClass_of_methodNamed Bd.named
  have hnm := (name_of_methodNamed Bd.named Bd.method).1
  have X0 : Stand p l e ({ frames := 2, cells := 1, slots := 6, locals := 29 } : Room) s m #[(.ref a1), (.ref a2), .null] below meth c s₁ [] 0 0 := Stand.of_body Bd
  have e0 : s₁.heap = h0 := by rw [← hh, Bd.state]; rfl
  have N0 := Fr.nil n0
  have K0 : Keep h0 h0 [a1] := Keep.refl h0 _
  show Goes p e below s ({ frames := 2, cells := 1, slots := 6, locals := 29 } : Room).cells ({ frames := 2, cells := 1, slots := 6, locals := 29 } : Room).slots (Q24 Z a1 a2 G1 bv f h0 n0) s₁ (entryFrame m #[(.ref a1), (.ref a2), .null] 5)
  refine Goes.step (fun t k => castTop (ef_24 m a1 a2) k) ?_
  refine Goes.step (fun _ k => XS.aloadN X0.here hx rfl (hb hby d24_0) rfl rfl k) ?_
  show Goes p e below s _ _ _ s₁ (mkF m 1 #[.val (.ref a1), .val (.ref a2), .val .null, .unset, .unset] [(.ref a1)])
  obtain ⟨T1, X1, e1, st1⟩ := initO X0 hx hZ hown (hw _ (List.mem_of_getElem? (i := 136) rfl)) (hw _ (List.mem_of_getElem? (i := 18) rfl)) (hw _ (List.mem_of_getElem? (i := 19) rfl)) e0 (g := (mkF m 1 #[.val (.ref a1), .val (.ref a2), .val .null, .unset, .unset] [(.ref a1)])) rfl (by rw [hml]; rfl) rfl (hb hby d24_1) (by decide) (W := 0) (by show 2 * 0 + _ ≤ _; exact Nat.le_of_eq rfl) (by decide)
  refine Goes.step st1 ?_
  show Goes p e below s _ _ _ T1 (mkF m 4 #[.val (.ref a1), .val (.ref a2), .val .null, .unset, .unset] [])
  refine Goes.step (fun _ k => XS.aloadN X1.here hx rfl (hb hby d24_4) rfl rfl k) ?_
  show Goes p e below s _ _ _ T1 (mkF m 5 #[.val (.ref a1), .val (.ref a2), .val .null, .unset, .unset] [(.ref a2)])
  obtain ⟨T2, X2, e2, st2⟩ := own_pure (r := some (.ref bv)) (fun _ _ _ q => q) (callXV X1 hx hZ (C := "java/lang/StringBuilder") (b := a2) (y := (⟨"java/lang/AbstractStringBuilder", "getValue", "()[B"⟩ : MethodName)) (z := (⟨"java/lang/AbstractStringBuilder", "getValue", "()[B"⟩ : MethodName)) hown (hw _ (List.mem_of_getElem? (i := 137) rfl)) (hw _ (List.mem_of_getElem? (i := 138) rfl)) (hw _ (List.mem_of_getElem? (i := 140) rfl)) (hw _ (List.mem_of_getElem? (i := 139) rfl)) (hw _ (List.mem_of_getElem? (i := 141) rfl)) (hw _ (List.mem_of_getElem? (i := 15) rfl)) (notFace_of_selects (args := #[]) (mvT hZ (hw _ (List.mem_of_getElem? (i := 140) rfl)))) (by decide) (W := 0) (argsL := []) (rest := []) (rm25 l Z a0 hw [] a2 bv h0 n0 Z0 F_a2_value_0) (by decide) (by decide) (by decide) (by decide) e1 E_a2_0 (g := (mkF m 5 #[.val (.ref a1), .val (.ref a2), .val .null, .unset, .unset] [(.ref a2)])) rfl (by rw [hml]; rfl) (lenOf pd_24_0 rfl) rfl (by show 2 * 0 + _ ≤ _; exact Nat.le_of_eq rfl) (hb hby d24_5))
  refine Goes.step st2 ?_
  show Goes p e below s _ _ _ T2 (mkF m 8 #[.val (.ref a1), .val (.ref a2), .val .null, .unset, .unset] [(.ref bv)])
  refine Goes.step (fun _ k => XS.astoreN X2.here hx rfl (hb hby d24_8) rfl rfl (l' := #[.val (.ref a1), .val (.ref a2), .val .null, .val (.ref bv), .unset]) rfl k) ?_
  show Goes p e below s _ _ _ T2 (mkF m 9 #[.val (.ref a1), .val (.ref a2), .val .null, .val (.ref bv), .unset] [])
  refine Goes.step (fun _ k => XS.aloadN X2.here hx rfl (hb hby d24_9) rfl rfl k) ?_
  show Goes p e below s _ _ _ T2 (mkF m 10 #[.val (.ref a1), .val (.ref a2), .val .null, .val (.ref bv), .unset] [(.ref a2)])
  obtain ⟨T3, X3, e3, st3⟩ := own_pure (r := some (.int (Int32.ofNat 6))) (fun _ _ _ q => q) (callXV X2 hx hZ (C := "java/lang/StringBuilder") (b := a2) (y := (⟨"java/lang/AbstractStringBuilder", "length", "()I"⟩ : MethodName)) (z := (⟨"java/lang/StringBuilder", "length", "()I"⟩ : MethodName)) hown (hw _ (List.mem_of_getElem? (i := 142) rfl)) (hw _ (List.mem_of_getElem? (i := 143) rfl)) (hw _ (List.mem_of_getElem? (i := 145) rfl)) (hw _ (List.mem_of_getElem? (i := 146) rfl)) (hw _ (List.mem_of_getElem? (i := 147) rfl)) (hw _ (List.mem_of_getElem? (i := 7) rfl)) (own_nf (a0 := #[]) (y := (⟨"java/lang/AbstractStringBuilder", "length", "()I"⟩ : MethodName)) (mvT hZ (hw _ (List.mem_of_getElem? (i := 61) rfl))) rfl) (by decide) (W := 0) (argsL := []) (rest := []) (rm26 l Z a0 hw [] a2 (Int32.ofNat 6) h0 n0 Z0 E_a2_0 F_a2_count_0) (by decide) (by decide) (by decide) (by decide) e2 E_a2_0 (g := (mkF m 10 #[.val (.ref a1), .val (.ref a2), .val .null, .val (.ref bv), .unset] [(.ref a2)])) rfl (by rw [hml]; rfl) (lenOf pd_24_1 rfl) rfl (by show 2 * 0 + _ ≤ _; exact Nat.le_of_eq rfl) (hb hby d24_10))
  refine Goes.step st3 ?_
  show Goes p e below s _ _ _ T3 (mkF m 13 #[.val (.ref a1), .val (.ref a2), .val .null, .val (.ref bv), .unset] [(.int (Int32.ofNat 6))])
  refine Goes.step (fun _ k => XS.istore X3.here hx rfl (hb hby d24_13) rfl (l' := #[.val (.ref a1), .val (.ref a2), .val .null, .val (.ref bv), .val (.int (Int32.ofNat 6))]) rfl k) ?_
  show Goes p e below s _ _ _ T3 (mkF m 15 #[.val (.ref a1), .val (.ref a2), .val .null, .val (.ref bv), .val (.int (Int32.ofNat 6))] [])
  refine Goes.step (fun _ k => XS.aloadN X3.here hx rfl (hb hby d24_15) rfl rfl k) ?_
  show Goes p e below s _ _ _ T3 (mkF m 16 #[.val (.ref a1), .val (.ref a2), .val .null, .val (.ref bv), .val (.int (Int32.ofNat 6))] [(.ref a2)])
  obtain ⟨T4, X4, e4, st4⟩ := own_pure (r := some (.int (1 : Int32))) (fun _ _ _ q => q) (callXV X3 hx hZ (C := "java/lang/StringBuilder") (b := a2) (y := (⟨"java/lang/AbstractStringBuilder", "isLatin1", "()Z"⟩ : MethodName)) (z := (⟨"java/lang/AbstractStringBuilder", "isLatin1", "()Z"⟩ : MethodName)) hown (hw _ (List.mem_of_getElem? (i := 150) rfl)) (hw _ (List.mem_of_getElem? (i := 116) rfl)) (hw _ (List.mem_of_getElem? (i := 118) rfl)) (hw _ (List.mem_of_getElem? (i := 117) rfl)) (hw _ (List.mem_of_getElem? (i := 119) rfl)) (hw _ (List.mem_of_getElem? (i := 15) rfl)) (notFace_of_selects (args := #[]) (mvT hZ (hw _ (List.mem_of_getElem? (i := 118) rfl)))) (by decide) (W := 0) (argsL := []) (rest := []) (rm20 l Z a0 hw [] a2 G1 h0 n0 Z0 O2 P3 (OL.keep K0 (allS ge_a1 all0)) F_a2_coder_0) (by decide) (by decide) (by decide) (by decide) e3 E_a2_0 (g := (mkF m 16 #[.val (.ref a1), .val (.ref a2), .val .null, .val (.ref bv), .val (.int (Int32.ofNat 6))] [(.ref a2)])) rfl (by rw [hml]; rfl) (lenOf pd_24_2 rfl) rfl (by show 2 * 0 + _ ≤ _; exact Nat.le_of_eq rfl) (hb hby d24_16))
  refine Goes.step st4 ?_
  show Goes p e below s _ _ _ T4 (mkF m 19 #[.val (.ref a1), .val (.ref a2), .val .null, .val (.ref bv), .val (.int (Int32.ofNat 6))] [(.int (1 : Int32))])
  refine Goes.step (fun _ k => XS.ifNo X4.here hx rfl (hb hby d24_19) rfl ((if0 _ _).trans (feq (by decide : ¬ ((1 : Int32) = (0 : Int32)))).1) k) ?_
  show Goes p e below s _ _ _ T4 (mkF m 22 #[.val (.ref a1), .val (.ref a2), .val .null, .val (.ref bv), .val (.int (Int32.ofNat 6))] [])
  refine Goes.step (fun _ k => XS.aloadN X4.here hx rfl (hb hby d24_22) rfl rfl k) ?_
  show Goes p e below s _ _ _ T4 (mkF m 23 #[.val (.ref a1), .val (.ref a2), .val .null, .val (.ref bv), .val (.int (Int32.ofNat 6))] [(.ref a1)])
  refine Goes.step (fun _ k => XS.iconst X4.here hx rfl (hb hby d24_23) k) ?_
  show Goes p e below s _ _ _ T4 (mkF m 24 #[.val (.ref a1), .val (.ref a2), .val .null, .val (.ref bv), .val (.int (Int32.ofNat 6))] [(.int (0 : Int32)), (.ref a1)])
  obtain ⟨T5, h5, X5, e5, W5, st5⟩ := putF X4 hx hZ hown (host := "") (Or.inl (hw _ (List.mem_of_getElem? (i := 55) rfl))) Via.refl e4 F_a1_coder_0 E_a1_0 (Or.inr ⟨(hw _ (List.mem_of_getElem? (i := 30) rfl)), rfl, hnm⟩) (hw _ (List.mem_of_getElem? (i := 28) rfl)) (ty := .byte) (by decide) rfl rfl (g := (mkF m 24 #[.val (.ref a1), .val (.ref a2), .val .null, .val (.ref bv), .val (.int (Int32.ofNat 6))] [(.int (0 : Int32)), (.ref a1)])) rfl rfl (hb hby d24_24)
  refine Goes.step st5 ?_
  have E_a1_5 := E_a1_0.wr W5
  have F_a1_value_5 := F_a1_value_0.other W5 (Or.inr (slot_ne (Or.inr (hw _ (List.mem_of_getElem? (i := 29) rfl))) (Or.inr (hw _ (List.mem_of_getElem? (i := 30) rfl))) (by decide) (t := (.array .byte)) (t' := .byte) (by decide) (by decide)))
  have E_a2_5 := E_a2_0.wr W5
  have A_bv_5 := A_bv_0.other W5 (Ne.symm ne_a1_bv)
  have E_bv_5 := E_bv_0.wr W5
  have z_5 : n0 ≤ h5.size := by rw [W5.size]; exact Z0
  have K_5 : Keep h0 h5 [a1] := K0.wr W5 (Or.inl (List.mem_of_getElem? (i := 0) rfl))
  have N_5 := Fr.snoc X5 N0 ge_a1
  have F_a1_coder_5 : Fld Z h5 a1 "java/lang/String" "coder" "B" (.int (0 : Int32)) := F_a1_coder_0.same W5
  show Goes p e below s _ _ _ T5 (mkF m 27 #[.val (.ref a1), .val (.ref a2), .val .null, .val (.ref bv), .val (.int (Int32.ofNat 6))] [])
  refine Goes.step (fun _ k => XS.aloadN X5.here hx rfl (hb hby d24_27) rfl rfl k) ?_
  show Goes p e below s _ _ _ T5 (mkF m 28 #[.val (.ref a1), .val (.ref a2), .val .null, .val (.ref bv), .val (.int (Int32.ofNat 6))] [(.ref a1)])
  refine Goes.step (fun _ k => XS.aloadN X5.here hx rfl (hb hby d24_28) rfl rfl k) ?_
  show Goes p e below s _ _ _ T5 (mkF m 29 #[.val (.ref a1), .val (.ref a2), .val .null, .val (.ref bv), .val (.int (Int32.ofNat 6))] [(.ref bv), (.ref a1)])
  refine Goes.step (fun _ k => XS.iconst X5.here hx rfl (hb hby d24_29) k) ?_
  show Goes p e below s _ _ _ T5 (mkF m 30 #[.val (.ref a1), .val (.ref a2), .val .null, .val (.ref bv), .val (.int (Int32.ofNat 6))] [(.int (0 : Int32)), (.ref bv), (.ref a1)])
  refine Goes.step (fun _ k => XS.iload X5.here hx rfl (hb hby d24_30) rfl k) ?_
  show Goes p e below s _ _ _ T5 (mkF m 32 #[.val (.ref a1), .val (.ref a2), .val .null, .val (.ref bv), .val (.int (Int32.ofNat 6))] [(.int (Int32.ofNat 6)), (.int (0 : Int32)), (.ref bv), (.ref a1)])
  obtain ⟨v6, T6, h6, L6, X6, e6, Q6, st6⟩ := callX X5 hx hZ (y := (⟨"java/util/Arrays", "copyOfRange", "([BII)[B"⟩ : MethodName)) hown (hw _ (List.mem_of_getElem? (i := 151) rfl)) (hw _ (List.mem_of_getElem? (i := 152) rfl)) (hw _ (List.mem_of_getElem? (i := 153) rfl)) (hw _ (List.mem_of_getElem? (i := 154) rfl)) (by decide) (W := 1) (argsL := [(.ref bv), (.int (0 : Int32)), (.int (Int32.ofNat 6))]) (rest := [(.ref a1)]) (rm28 l Z a0 hw [] bv f h5 n0 z_5 A_bv_5 E_bv_5) (by decide) (by decide) (by decide) (by decide) e5 (g := (mkF m 32 #[.val (.ref a1), .val (.ref a2), .val .null, .val (.ref bv), .val (.int (Int32.ofNat 6))] [(.int (Int32.ofNat 6)), (.int (0 : Int32)), (.ref bv), (.ref a1)])) rfl (by rw [hml]; rfl) (lenOf pd_24_3 rfl) rfl (by show 2 * 0 + _ ≤ _; exact Nat.le_of_eq rfl) (hb hby d24_32)
  obtain ⟨o6, rfl, NQ6, KQ6, so6, hA6⟩ := Q6
  refine Goes.step st6 ?_
  have E_a1_6 := E_a1_5.keep KQ6
  have F_a1_value_6 := F_a1_value_5.keep KQ6 nin0
  have F_a1_coder_6 := F_a1_coder_5.keep KQ6 nin0
  have E_a2_6 := E_a2_5.keep KQ6
  have A_bv_6 := A_bv_5.keep KQ6 nin0
  have E_bv_6 := E_bv_5.keep KQ6
  have z_6 : n0 ≤ h6.size := Nat.le_trans z_5 KQ6.1
  have K_6 : Keep h0 h6 [a1] := Keep.trans K_5 KQ6 all0
  have N_6 := Fr.app N_5 NQ6
  have ne_o6 : o6 ≠ a1 := Nat.ne_of_gt (Nat.lt_of_lt_of_le E_a1_5.lt so6)
  show Goes p e below s _ _ _ T6 (mkF m 35 #[.val (.ref a1), .val (.ref a2), .val .null, .val (.ref bv), .val (.int (Int32.ofNat 6))] [(.ref o6), (.ref a1)])
  obtain ⟨T7, h7, X7, e7, W7, st7⟩ := putF X6 hx hZ hown (host := "") (Or.inl (hw _ (List.mem_of_getElem? (i := 48) rfl))) Via.refl e6 F_a1_value_6 E_a1_6 (Or.inr ⟨(hw _ (List.mem_of_getElem? (i := 29) rfl)), rfl, hnm⟩) (hw _ (List.mem_of_getElem? (i := 28) rfl)) (ty := (.array .byte)) (by decide) rfl rfl (g := (mkF m 35 #[.val (.ref a1), .val (.ref a2), .val .null, .val (.ref bv), .val (.int (Int32.ofNat 6))] [(.ref o6), (.ref a1)])) rfl rfl (hb hby d24_35)
  refine Goes.step st7 ?_
  have E_a1_7 := E_a1_6.wr W7
  have F_a1_coder_7 := F_a1_coder_6.other W7 (Or.inr (slot_ne (Or.inr (hw _ (List.mem_of_getElem? (i := 30) rfl))) (Or.inr (hw _ (List.mem_of_getElem? (i := 29) rfl))) (by decide) (t := .byte) (t' := (.array .byte)) (by decide) (by decide)))
  have E_a2_7 := E_a2_6.wr W7
  have A_bv_7 := A_bv_6.other W7 (Ne.symm ne_a1_bv)
  have E_bv_7 := E_bv_6.wr W7
  have hA6_7 := hA6.other W7 ne_o6
  have z_7 : n0 ≤ h7.size := by rw [W7.size]; exact z_6
  have K_7 : Keep h0 h7 [a1] := K_6.wr W7 (Or.inl (List.mem_of_getElem? (i := 0) rfl))
  have N_7 := Fr.snoc X7 N_6 ge_a1
  have F_a1_value_7 : Fld Z h7 a1 "java/lang/String" "value" "[B" (.ref o6) := F_a1_value_6.same W7
  show Goes p e below s _ _ _ T7 (mkF m 38 #[.val (.ref a1), .val (.ref a2), .val .null, .val (.ref bv), .val (.int (Int32.ofNat 6))] [])
  refine Goes.step (fun _ k => XS.goto X7.here hx rfl (pc0 := 38) (pc' := 97) rfl (hb hby d24_38) (by decide) (by decide) k) ?_
  show Goes p e below s _ _ _ T7 (mkF m 97 #[.val (.ref a1), .val (.ref a2), .val .null, .val (.ref bv), .val (.int (Int32.ofNat 6))] [])
  exact Goes.outV X7 hx hlk Bd.returns (hb hby d24_97) (by rw [e7]; exact ⟨rfl, N_7, K_7, o6, F_a1_value_7, F_a1_coder_7, hA6_7⟩) (by decide) (by decide)
theorem d23_0 : decode jdk_42_method_53_code 0 = .ok (.aload_n 0, 1) := by decide +kernel
theorem d23_1 : decode jdk_42_method_53_code 1 = .ok (.aload_n 1, 1) := by decide +kernel
theorem d23_2 : decode jdk_42_method_53_code 2 = .ok (.aconst_null, 1) := by decide +kernel
theorem d23_3 : decode jdk_42_method_53_code 3 = .ok (.invokespecial 489, 3) := by decide +kernel
theorem d23_6 : decode jdk_42_method_53_code 6 = .ok (.return_, 1) := by decide +kernel
theorem pn_23 : plainName "java/lang/String" = true := by first | (simp [plainName, overriddenIn]; done) | decide +kernel
theorem pd_23_0 : parseMethodDescriptor "(Ljava/lang/AbstractStringBuilder;Ljava/lang/Void;)V" = some ⟨[(.object "java/lang/AbstractStringBuilder"), (.object "java/lang/Void")], none⟩ := by decide +kernel
theorem ef_23 (m : MethodId) (a1 : Addr) (a2 : Addr) : entryFrame m #[(.ref a1), (.ref a2)] 2 = mkF m 0 #[.val (.ref a1), .val (.ref a2)] [] := by first | (simp [entryFrame, mkF, argsToLocals, Value.category]; done) | rfl
def Q23 (Z : State) (a1 : Addr) (a2 : Addr) (G1 : Int32) (bv : Addr) (f : Nat → Int32) (h0 : Heap) (n0 : Nat) (v : Option Value) (h : Heap) (L : List Loc) : Prop := v = none ∧ Fr n0 L ∧ Keep h0 h [a1] ∧ ∃ o, Fld Z h a1 "java/lang/String" "value" "[B" (.ref o) ∧ Fld Z h a1 "java/lang/String" "coder" "B" (.int (0 : Int32)) ∧ Ari Z h o .byte 6 f
set_option maxRecDepth 65536 in
set_option maxHeartbeats 40000000 in
theorem rm23 (l : Launch) (Z : State) (a0 : Array Value) (hw : ∀ d ∈ tables_1, d.before a0 Z = true) (ws : List Jvm.Cond) (a1 : Addr) (a2 : Addr) (G1 : Int32) (bv : Addr) (f : Nat → Int32) (h0 : Heap) (n0 : Nat) (Z0 : n0 ≤ h0.size) (O2 : Sta Z Z.heap "java/lang/String" "COMPACT_STRINGS" "Z" (.int G1)) (P3 : ¬ (G1 = (0 : Int32))) (OL : Old Z n0 h0) (E_a1_0 : Exa Z h0 a1 "java/lang/String") (F_a1_value_0 : Fld Z h0 a1 "java/lang/String" "value" "[B" .null) (F_a1_coder_0 : Fld Z h0 a1 "java/lang/String" "coder" "B" (.int (0 : Int32))) (E_a2_0 : Exa Z h0 a2 "java/lang/StringBuilder") (F_a2_value_0 : Fld Z h0 a2 "java/lang/AbstractStringBuilder" "value" "[B" (.ref bv)) (F_a2_coder_0 : Fld Z h0 a2 "java/lang/AbstractStringBuilder" "coder" "B" (.int (0 : Int32))) (F_a2_count_0 : Fld Z h0 a2 "java/lang/AbstractStringBuilder" "count" "I" (.int (Int32.ofNat 6))) (A_bv_0 : Ari Z h0 bv .byte 6 f) (E_bv_0 : Exa Z h0 bv "[B") (ge_a1 : n0 ≤ a1) (ne_a1_bv : a1 ≠ bv) :
    MetFree l (⟨"java/lang/String", "<init>", "(Ljava/lang/StringBuilder;)V"⟩ : MethodName) (head1 (Jvm.Cond.code (⟨"java/lang/String", "<init>", "(Ljava/lang/StringBuilder;)V"⟩ : MethodName) jdk_42_method_53_code 2 none :: ws) ({ frames := 3, cells := 1, slots := 6, locals := 45 } : Room)) (fun a U => a = #[(.ref a1), (.ref a2)] ∧ Z.Warmed39 U.vm ∧ U.heap = h0) (fun _ _ _ _ _ => True) (fun _ U o U' => ∃ v L, o = .returned v ∧ Q23 Z a1 a2 G1 bv f h0 n0 v U'.heap L ∧ FrameEnd U o U' L ({ frames := 3, cells := 1, slots := 6, locals := 45 } : Room).cells ({ frames := 3, cells := 1, slots := 6, locals := 45 } : Room).slots) := by
  refine MetFree.of_bodySF (plainFor_of_name pn_23) hisR ?_
  intro p e s m args below meth c s₁ Bd hml0 hP hK
  obtain ⟨rfl, hZ, hh⟩ := hP
  have hx := Bd.exec
  have hby := Bd.bytes
  have hlk := Bd.notSynchronized
  have hml : c.maxLocals = 2 := hml0
  have hown : s.vm.findClass "java/lang/String" = some m.cls := findClass_of_methodNamed Bd.named
  have hnm := (name_of_methodNamed Bd.named Bd.method).1
  have X0 : Stand p l e ({ frames := 3, cells := 1, slots := 6, locals := 45 } : Room) s m #[(.ref a1), (.ref a2)] below meth c s₁ [] 0 0 := Stand.of_body Bd
  have e0 : s₁.heap = h0 := by rw [← hh, Bd.state]; rfl
  have N0 := Fr.nil n0
  have K0 : Keep h0 h0 [a1] := Keep.refl h0 _
  show Goes p e below s ({ frames := 3, cells := 1, slots := 6, locals := 45 } : Room).cells ({ frames := 3, cells := 1, slots := 6, locals := 45 } : Room).slots (Q23 Z a1 a2 G1 bv f h0 n0) s₁ (entryFrame m #[(.ref a1), (.ref a2)] 2)
  refine Goes.step (fun t k => castTop (ef_23 m a1 a2) k) ?_
  refine Goes.step (fun _ k => XS.aloadN X0.here hx rfl (hb hby d23_0) rfl rfl k) ?_
  show Goes p e below s _ _ _ s₁ (mkF m 1 #[.val (.ref a1), .val (.ref a2)] [(.ref a1)])
  refine Goes.step (fun _ k => XS.aloadN X0.here hx rfl (hb hby d23_1) rfl rfl k) ?_
  show Goes p e below s _ _ _ s₁ (mkF m 2 #[.val (.ref a1), .val (.ref a2)] [(.ref a2), (.ref a1)])
  refine Goes.step (fun _ k => XS.aconstNull X0.here hx rfl (hb hby d23_2) k) ?_
  show Goes p e below s _ _ _ s₁ (mkF m 3 #[.val (.ref a1), .val (.ref a2)] [.null, (.ref a2), (.ref a1)])
  obtain ⟨v1, T1, h1, L1, X1, e1, Q1, st1⟩ := callXI X0 hx hZ (b := a1) (y := (⟨"java/lang/String", "<init>", "(Ljava/lang/AbstractStringBuilder;Ljava/lang/Void;)V"⟩ : MethodName)) hown rfl (hw _ (List.mem_of_getElem? (i := 133) rfl)) (hw _ (List.mem_of_getElem? (i := 134) rfl)) (hw _ (List.mem_of_getElem? (i := 135) rfl)) (hw _ (List.mem_of_getElem? (i := 21) rfl)) (by decide) (W := 0) (argsL := [(.ref a2), .null]) (rest := []) (rm24 l Z a0 hw [] a1 a2 G1 bv f h0 n0 Z0 O2 P3 (OL.keep K0 (allS ge_a1 all0)) E_a1_0 F_a1_value_0 F_a1_coder_0 E_a2_0 F_a2_value_0 F_a2_coder_0 F_a2_count_0 A_bv_0 E_bv_0 ge_a1 ne_a1_bv) (by decide) (by decide) (by decide) (by decide) e0 (g := (mkF m 3 #[.val (.ref a1), .val (.ref a2)] [.null, (.ref a2), (.ref a1)])) rfl (by rw [hml]; rfl) (lenOf pd_23_0 rfl) rfl (by show 2 * 0 + _ ≤ _; exact Nat.le_of_eq rfl) (hb hby d23_3)
  obtain ⟨rfl, NQ1, KQ1, o1, hV1, hC1, hA1⟩ := Q1
  refine Goes.step st1 ?_
  have E_a1_1 := E_a1_0.keep KQ1
  have E_a2_1 := E_a2_0.keep KQ1
  have E_bv_1 := E_bv_0.keep KQ1
  have z_1 : n0 ≤ h1.size := Nat.le_trans Z0 KQ1.1
  have K_1 : Keep h0 h1 [a1] := Keep.trans K0 KQ1 (allS (Or.inl (List.mem_of_getElem? (i := 0) rfl)) all0)
  have N_1 := Fr.app N0 NQ1
  show Goes p e below s _ _ _ T1 (mkF m 6 #[.val (.ref a1), .val (.ref a2)] [])
  exact Goes.outV X1 hx hlk Bd.returns (hb hby d23_6) (by rw [e1]; exact ⟨rfl, N_1, K_1, o1, hV1, hC1, hA1⟩) (by decide) (by decide)
theorem d22_0 : decode jdk_67_method_42_code 0 = .ok (.new 18, 3) := by decide +kernel
theorem d22_3 : decode jdk_67_method_42_code 3 = .ok (.dup, 1) := by decide +kernel
theorem d22_4 : decode jdk_67_method_42_code 4 = .ok (.aload_n 0, 1) := by decide +kernel
theorem d22_5 : decode jdk_67_method_42_code 5 = .ok (.invokespecial 137, 3) := by decide +kernel
theorem d22_8 : decode jdk_67_method_42_code 8 = .ok (.areturn, 1) := by decide +kernel
theorem pn_22 : plainName "java/lang/StringBuilder" = true := by first | (simp [plainName, overriddenIn]; done) | decide +kernel
theorem pd_22_0 : parseMethodDescriptor "(Ljava/lang/StringBuilder;)V" = some ⟨[(.object "java/lang/StringBuilder")], none⟩ := by decide +kernel
theorem ef_22 (m : MethodId) (a1 : Addr) : entryFrame m #[(.ref a1)] 1 = mkF m 0 #[.val (.ref a1)] [] := by first | (simp [entryFrame, mkF, argsToLocals, Value.category]; done) | rfl
def Q22 (Z : State) (a1 : Addr) (G1 : Int32) (bv : Addr) (f : Nat → Int32) (h0 : Heap) (n0 : Nat) (v : Option Value) (h : Heap) (L : List Loc) : Prop := ∃ o av, v = some (.ref o) ∧ Fr n0 L ∧ Keep h0 h [] ∧ Exa Z h o "java/lang/String" ∧ Fld Z h o "java/lang/String" "value" "[B" (.ref av) ∧ Fld Z h o "java/lang/String" "coder" "B" (.int (0 : Int32)) ∧ Ari Z h av .byte 6 f
set_option maxRecDepth 65536 in
set_option maxHeartbeats 40000000 in
theorem rm22 (l : Launch) (Z : State) (a0 : Array Value) (hw : ∀ d ∈ tables_1, d.before a0 Z = true) (ws : List Jvm.Cond) (a1 : Addr) (G1 : Int32) (bv : Addr) (f : Nat → Int32) (h0 : Heap) (n0 : Nat) (Z0 : n0 ≤ h0.size) (O2 : Sta Z Z.heap "java/lang/String" "COMPACT_STRINGS" "Z" (.int G1)) (P3 : ¬ (G1 = (0 : Int32))) (OL : Old Z n0 h0) (E_a1_0 : Exa Z h0 a1 "java/lang/StringBuilder") (F_a1_value_0 : Fld Z h0 a1 "java/lang/AbstractStringBuilder" "value" "[B" (.ref bv)) (F_a1_coder_0 : Fld Z h0 a1 "java/lang/AbstractStringBuilder" "coder" "B" (.int (0 : Int32))) (F_a1_count_0 : Fld Z h0 a1 "java/lang/AbstractStringBuilder" "count" "I" (.int (Int32.ofNat 6))) (A_bv_0 : Ari Z h0 bv .byte 6 f) (E_bv_0 : Exa Z h0 bv "[B") :
    MetFree l (⟨"java/lang/StringBuilder", "toString", "()Ljava/lang/String;"⟩ : MethodName) (head1 (Jvm.Cond.code (⟨"java/lang/StringBuilder", "toString", "()Ljava/lang/String;"⟩ : MethodName) jdk_67_method_42_code 1 (some (.object "java/lang/String")) :: ws) ({ frames := 4, cells := 2, slots := 10, locals := 59 } : Room)) (fun a U => a = #[(.ref a1)] ∧ Z.Warmed39 U.vm ∧ U.heap = h0) (fun _ _ _ _ _ => True) (fun _ U o U' => ∃ v L, o = .returned v ∧ Q22 Z a1 G1 bv f h0 n0 v U'.heap L ∧ FrameEnd U o U' L ({ frames := 4, cells := 2, slots := 10, locals := 59 } : Room).cells ({ frames := 4, cells := 2, slots := 10, locals := 59 } : Room).slots) := by
  refine MetFree.of_bodySF (plainFor_of_name pn_22) hisR ?_
  intro p e s m args below meth c s₁ Bd hml0 hP hK
  obtain ⟨rfl, hZ, hh⟩ := hP
  have hx := Bd.exec
  have hby := Bd.bytes
  have hlk := Bd.notSynchronized
  have hml : c.maxLocals = 1 := hml0
  have hown : s.vm.findClass "java/lang/StringBuilder" = some m.cls := findClass_of_methodNamed Bd.named
  have hnm := (name_of_methodNamed Bd.named Bd.method).1
  have X0 : Stand p l e ({ frames := 4, cells := 2, slots := 10, locals := 59 } : Room) s m #[(.ref a1)] below meth c s₁ [] 0 0 := Stand.of_body Bd
  have e0 : s₁.heap = h0 := by rw [← hh, Bd.state]; rfl
  have N0 := Fr.nil n0
  have K0 : Keep h0 h0 [] := Keep.refl h0 _
  show Goes p e below s ({ frames := 4, cells := 2, slots := 10, locals := 59 } : Room).cells ({ frames := 4, cells := 2, slots := 10, locals := 59 } : Room).slots (Q22 Z a1 G1 bv f h0 n0) s₁ (entryFrame m #[(.ref a1)] 1)
  refine Goes.step (fun t k => castTop (ef_22 m a1) k) ?_
  obtain ⟨T1, h1, X1, e1, E1, A1, D1, -, st1⟩ := newO X0 hx hZ hown (hw _ (List.mem_of_getElem? (i := 128) rfl)) (hw _ (List.mem_of_getElem? (i := 28) rfl)) (hw _ (List.mem_of_getElem? (i := 21) rfl)) e0 (g := (mkF m 0 #[.val (.ref a1)] [])) rfl (hb hby d22_0) (by decide) (by decide)
  obtain ⟨b1, g_1⟩ : ∃ z, z = h0.size := ⟨_, rfl⟩
  rw [← g_1] at A1 D1 st1
  refine Goes.step st1 ?_
  have ne_a1_b1 : a1 ≠ b1 := Nat.ne_of_lt (by rw [g_1]; exact E_a1_0.lt)
  have ne_bv_b1 : bv ≠ b1 := Nat.ne_of_lt (by rw [g_1]; exact A_bv_0.lt)
  have ge_b1 : n0 ≤ b1 := by rw [g_1]; exact Z0
  have sz_b1 : h0.size ≤ b1 := by rw [g_1]; exact K0.1
  have E_a1_1 := E_a1_0.ext E1
  have F_a1_value_1 := F_a1_value_0.ext E1
  have F_a1_coder_1 := F_a1_coder_0.ext E1
  have F_a1_count_1 := F_a1_count_0.ext E1
  have A_bv_1 := A_bv_0.ext E1
  have E_bv_1 := E_bv_0.ext E1
  have z_1 : n0 ≤ h1.size := Nat.le_trans Z0 E1.1
  have K_1 : Keep h0 h1 [] := K0.ext E1
  have E_b1_1 : Exa Z h1 b1 "java/lang/String" := A1
  have F_b1_value_1 : Fld Z h1 b1 "java/lang/String" "value" "[B" .null := D1 (Or.inr (hw _ (List.mem_of_getElem? (i := 29) rfl))) (ty := (.array .byte)) (by decide)
  have F_b1_coder_1 : Fld Z h1 b1 "java/lang/String" "coder" "B" (.int (0 : Int32)) := D1 (Or.inr (hw _ (List.mem_of_getElem? (i := 30) rfl))) (ty := .byte) (by decide)
  show Goes p e below s _ _ _ T1 (mkF m 3 #[.val (.ref a1)] [(.ref b1)])
  refine Goes.step (fun _ k => XS.dup X1.here hx rfl (hb hby d22_3) rfl rfl k) ?_
  show Goes p e below s _ _ _ T1 (mkF m 4 #[.val (.ref a1)] [(.ref b1), (.ref b1)])
  refine Goes.step (fun _ k => XS.aloadN X1.here hx rfl (hb hby d22_4) rfl rfl k) ?_
  show Goes p e below s _ _ _ T1 (mkF m 5 #[.val (.ref a1)] [(.ref a1), (.ref b1), (.ref b1)])
  obtain ⟨v2, T2, h2, L2, X2, e2, Q2, st2⟩ := callXI X1 hx hZ (b := b1) (y := (⟨"java/lang/String", "<init>", "(Ljava/lang/StringBuilder;)V"⟩ : MethodName)) hown rfl (hw _ (List.mem_of_getElem? (i := 129) rfl)) (hw _ (List.mem_of_getElem? (i := 130) rfl)) (hw _ (List.mem_of_getElem? (i := 132) rfl)) (hw _ (List.mem_of_getElem? (i := 21) rfl)) (by decide) (W := 1) (argsL := [(.ref a1)]) (rest := [(.ref b1)]) (rm23 l Z a0 hw [] b1 a1 G1 bv f h1 n0 z_1 O2 P3 (OL.keep K_1 all0) E_b1_1 F_b1_value_1 F_b1_coder_1 E_a1_1 F_a1_value_1 F_a1_coder_1 F_a1_count_1 A_bv_1 E_bv_1 ge_b1 (Ne.symm ne_bv_b1)) (by decide) (by decide) (by decide) (by decide) e1 (g := (mkF m 5 #[.val (.ref a1)] [(.ref a1), (.ref b1), (.ref b1)])) rfl (by rw [hml]; rfl) (lenOf pd_22_0 rfl) rfl (by show 2 * 0 + _ ≤ _; exact Nat.le_of_eq rfl) (hb hby d22_5)
  obtain ⟨rfl, NQ2, KQ2, o2, hV2, hC2, hA2⟩ := Q2
  refine Goes.step st2 ?_
  have E_a1_2 := E_a1_1.keep KQ2
  have E_bv_2 := E_bv_1.keep KQ2
  have E_b1_2 := E_b1_1.keep KQ2
  have z_2 : n0 ≤ h2.size := Nat.le_trans z_1 KQ2.1
  have K_2 : Keep h0 h2 [] := Keep.trans K_1 KQ2 (allS (Or.inr sz_b1) all0)
  have N_2 := Fr.app N0 NQ2
  show Goes p e below s _ _ _ T2 (mkF m 8 #[.val (.ref a1)] [(.ref b1)])
  exact Goes.outR X2 hx hlk Bd.returns rfl rfl (hb hby d22_8) (by rw [e2]; exact ⟨b1, o2, rfl, N_2, K_2, E_b1_2, hV2, hC2, hA2⟩) (by decide) (by decide)
theorem d1_0 : decode prog_1_method_3_code 0 = .ok (.new 13, 3) := by decide +kernel
theorem d1_3 : decode prog_1_method_3_code 3 = .ok (.dup, 1) := by decide +kernel
theorem d1_4 : decode prog_1_method_3_code 4 = .ok (.bipush 6, 2) := by decide +kernel
theorem d1_6 : decode prog_1_method_3_code 6 = .ok (.invokespecial 21, 3) := by decide +kernel
theorem d1_9 : decode prog_1_method_3_code 9 = .ok (.ldc 50, 2) := by decide +kernel
theorem d1_11 : decode prog_1_method_3_code 11 = .ok (.invokevirtual 40, 3) := by decide +kernel
theorem d1_14 : decode prog_1_method_3_code 14 = .ok (.ldc 52, 2) := by decide +kernel
theorem d1_16 : decode prog_1_method_3_code 16 = .ok (.iload_n 0, 1) := by decide +kernel
theorem d1_17 : decode prog_1_method_3_code 17 = .ok (.bipush 12, 2) := by decide +kernel
theorem d1_19 : decode prog_1_method_3_code 19 = .ok (.ishr, 1) := by decide +kernel
theorem d1_20 : decode prog_1_method_3_code 20 = .ok (.invokevirtual 28, 3) := by decide +kernel
theorem d1_23 : decode prog_1_method_3_code 23 = .ok (.invokevirtual 43, 3) := by decide +kernel
theorem d1_26 : decode prog_1_method_3_code 26 = .ok (.ldc 52, 2) := by decide +kernel
theorem d1_28 : decode prog_1_method_3_code 28 = .ok (.iload_n 0, 1) := by decide +kernel
theorem d1_29 : decode prog_1_method_3_code 29 = .ok (.bipush 8, 2) := by decide +kernel
theorem d1_31 : decode prog_1_method_3_code 31 = .ok (.ishr, 1) := by decide +kernel
theorem d1_32 : decode prog_1_method_3_code 32 = .ok (.bipush 15, 2) := by decide +kernel
theorem d1_34 : decode prog_1_method_3_code 34 = .ok (.iand, 1) := by decide +kernel
theorem d1_35 : decode prog_1_method_3_code 35 = .ok (.invokevirtual 28, 3) := by decide +kernel
theorem d1_38 : decode prog_1_method_3_code 38 = .ok (.invokevirtual 43, 3) := by decide +kernel
theorem d1_41 : decode prog_1_method_3_code 41 = .ok (.ldc 52, 2) := by decide +kernel
theorem d1_43 : decode prog_1_method_3_code 43 = .ok (.iload_n 0, 1) := by decide +kernel
theorem d1_44 : decode prog_1_method_3_code 44 = .ok (.iconst 4, 1) := by decide +kernel
theorem d1_45 : decode prog_1_method_3_code 45 = .ok (.ishr, 1) := by decide +kernel
theorem d1_46 : decode prog_1_method_3_code 46 = .ok (.bipush 15, 2) := by decide +kernel
theorem d1_48 : decode prog_1_method_3_code 48 = .ok (.iand, 1) := by decide +kernel
theorem d1_49 : decode prog_1_method_3_code 49 = .ok (.invokevirtual 28, 3) := by decide +kernel
theorem d1_52 : decode prog_1_method_3_code 52 = .ok (.invokevirtual 43, 3) := by decide +kernel
theorem d1_55 : decode prog_1_method_3_code 55 = .ok (.ldc 52, 2) := by decide +kernel
theorem d1_57 : decode prog_1_method_3_code 57 = .ok (.iload_n 0, 1) := by decide +kernel
theorem d1_58 : decode prog_1_method_3_code 58 = .ok (.bipush 15, 2) := by decide +kernel
theorem d1_60 : decode prog_1_method_3_code 60 = .ok (.iand, 1) := by decide +kernel
theorem d1_61 : decode prog_1_method_3_code 61 = .ok (.invokevirtual 28, 3) := by decide +kernel
theorem d1_64 : decode prog_1_method_3_code 64 = .ok (.invokevirtual 43, 3) := by decide +kernel
theorem d1_67 : decode prog_1_method_3_code 67 = .ok (.invokevirtual 46, 3) := by decide +kernel
theorem d1_70 : decode prog_1_method_3_code 70 = .ok (.areturn, 1) := by decide +kernel
theorem pn_1 : plainName "com/example/cartouche/cartouche/ControlCharacters" = true := by first | (simp [plainName, overriddenIn]; done) | decide +kernel
theorem pd_1_0 : parseMethodDescriptor "(I)V" = some ⟨[.int], none⟩ := by decide +kernel
theorem pd_1_1 : parseMethodDescriptor "(Ljava/lang/String;)Ljava/lang/StringBuilder;" = some ⟨[(.object "java/lang/String")], some (.object "java/lang/StringBuilder")⟩ := by decide +kernel
theorem pd_1_2 : parseMethodDescriptor "(I)C" = some ⟨[.int], some .char⟩ := by decide +kernel
theorem pd_1_3 : parseMethodDescriptor "(C)Ljava/lang/StringBuilder;" = some ⟨[.char], some (.object "java/lang/StringBuilder")⟩ := by decide +kernel
theorem pd_1_4 : parseMethodDescriptor "()Ljava/lang/String;" = some ⟨[], some (.object "java/lang/String")⟩ := by decide +kernel
theorem ef_1 (m : MethodId) (p1 : Int32) : entryFrame m #[(.int p1)] 1 = mkF m 0 #[.val (.int p1)] [] := by first | (simp [entryFrame, mkF, argsToLocals, Value.category]; done) | rfl
def Q1 (Z : State) (p1 : Int32) (G1 : Int32) (oF : Option Addr) (nn : Nat) (h0 : Heap) (n0 : Nat) (v : Option Value) (h : Heap) (L : List Loc) : Prop := ∃ o b, v = some (.ref o) ∧ Fr n0 L ∧ Keep h0 h [] ∧ Exa Z h o "java/lang/String" ∧ Fld Z h o "java/lang/String" "value" "[B" (.ref b) ∧ Fld Z h o "java/lang/String" "coder" "B" (.int (0 : Int32)) ∧ Ari Z h b .byte 6 (own_esc nn)
set_option maxRecDepth 65536 in
set_option maxHeartbeats 40000000 in
theorem rm1 (l : Launch) (Z : State) (a0 : Array Value) (hw : ∀ d ∈ tables_1, d.before a0 Z = true) (ws : List Jvm.Cond) (p1 : Int32) (G1 : Int32) (oF : Option Addr) (nn : Nat) (h0 : Heap) (n0 : Nat) (Z0 : n0 ≤ h0.size) (O2 : Sta Z Z.heap "java/lang/String" "COMPACT_STRINGS" "Z" (.int G1)) (P3 : ¬ (G1 = (0 : Int32))) (OL : Old Z n0 h0) (O4 : Sta Z Z.heap "jdk/internal/util/Preconditions" "SIOOBE_FORMATTER" "Ljava/util/function/BiFunction;" (ov oF)) (hn0 : n0 = h0.size) (HC1 : Jvm.Lit.constHeld Z "com/example/cartouche/cartouche/ControlCharacters" 50) (HC2 : Jvm.Lit.constHeld Z "com/example/cartouche/cartouche/ControlCharacters" 52) (hcw : Jvm.Lit.compactW.before a0 Z = true) (hp1 : p1 = Int32.ofNat nn) (hnn : nn < 65536) :
    MetFree l (⟨"com/example/cartouche/cartouche/ControlCharacters", "unicodeEscape", "(C)Ljava/lang/String;"⟩ : MethodName) (head1 (Jvm.Cond.code (⟨"com/example/cartouche/cartouche/ControlCharacters", "unicodeEscape", "(C)Ljava/lang/String;"⟩ : MethodName) prog_1_method_3_code 1 (some (.object "java/lang/String")) :: ws) ({ frames := 5, cells := 8, slots := 100, locals := 83 } : Room)) (fun a U => a = #[(.int p1)] ∧ Z.Warmed39 U.vm ∧ U.heap = h0 ∧ U.vm.interned = Z.vm.interned) (fun _ _ _ _ _ => True) (fun _ U o U' => ∃ v L, o = .returned v ∧ Q1 Z p1 G1 oF nn h0 n0 v U'.heap L ∧ ReturnedEndW U o U' L ({ frames := 5, cells := 8, slots := 100, locals := 83 } : Room).cells ({ frames := 5, cells := 8, slots := 100, locals := 83 } : Room).slots) := by
  refine MetFree.of_bodySF (plainFor_of_name pn_1) hisR ?_
  intro p e s m args below meth c s₁ Bd hml0 hP hK
  obtain ⟨rfl, hZ, hh, hI⟩ := hP
  have hx := Bd.exec
  have hby := Bd.bytes
  have hlk := Bd.notSynchronized
  have hml : c.maxLocals = 1 := hml0
  have hown : s.vm.findClass "com/example/cartouche/cartouche/ControlCharacters" = some m.cls := findClass_of_methodNamed Bd.named
  have hnm := (name_of_methodNamed Bd.named Bd.method).1
  have X0 : Stand p l e ({ frames := 5, cells := 8, slots := 100, locals := 83 } : Room) s m #[(.int p1)] below meth c s₁ [] 0 0 := Stand.of_body Bd
  have e0 : s₁.heap = h0 := by rw [← hh, Bd.state]; rfl
  have N0 := Fr.nil n0
  have K0 : Keep h0 h0 [] := Keep.refl h0 _
  show GoesW p e below s ({ frames := 5, cells := 8, slots := 100, locals := 83 } : Room).cells ({ frames := 5, cells := 8, slots := 100, locals := 83 } : Room).slots (Q1 Z p1 G1 oF nn h0 n0) s₁ (entryFrame m #[(.int p1)] 1)
  refine GoesW.step (fun t k => castTop (ef_1 m p1) k) ?_
  have hkeep : ∀ (b : Addr) (cl : Cell), Z.heap[b]? = some cl → s.heap[b]? = some cl := fun b cl q => by rw [hh]; exact OL.2.2 b cl q
  have IB0 : IB Z s.vm [] := ⟨#[], by simp [hI], fun q hq => by simp at hq⟩
  have wS : ∀ a ∈ Bundle.stringAtoms, a.before a0 Z = true := fun d hd => by
    simp only [Bundle.stringAtoms, Bundle.sN, List.mem_cons, List.not_mem_nil, or_false] at hd
    rcases hd with rfl | rfl | rfl | rfl | rfl | rfl | rfl
    · exact (hw _ (List.mem_of_getElem? (i := 21) rfl))
    · exact (hw _ (List.mem_of_getElem? (i := 28) rfl))
    · exact (hw _ (List.mem_of_getElem? (i := 22) rfl))
    · exact (hw _ (List.mem_of_getElem? (i := 29) rfl))
    · exact (hw _ (List.mem_of_getElem? (i := 30) rfl))
    · exact (hw _ (List.mem_of_getElem? (i := 31) rfl))
    · exact (hw _ (List.mem_of_getElem? (i := 32) rfl))
  obtain ⟨T1, h1, X1, e1, E1, A1, D1, -, st1⟩ := newO X0 hx hZ hown (hw _ (List.mem_of_getElem? (i := 5) rfl)) (hw _ (List.mem_of_getElem? (i := 6) rfl)) (hw _ (List.mem_of_getElem? (i := 7) rfl)) e0 (g := (mkF m 0 #[.val (.int p1)] [])) rfl (hb hby d1_0) (by decide) (by decide)
  obtain ⟨b1, g_1⟩ : ∃ z, z = h0.size := ⟨_, rfl⟩
  rw [← g_1] at A1 D1 st1
  refine GoesW.step st1 ?_
  have ge_b1 : n0 ≤ b1 := by rw [g_1]; exact Z0
  have sz_b1 : h0.size ≤ b1 := by rw [g_1]; exact K0.1
  have z_1 : n0 ≤ h1.size := Nat.le_trans Z0 E1.1
  have K_1 : Keep h0 h1 [] := K0.ext E1
  have E_b1_1 : Exa Z h1 b1 "java/lang/StringBuilder" := A1
  have F_b1_value_1 : Fld Z h1 b1 "java/lang/AbstractStringBuilder" "value" "[B" .null := D1 (Or.inl (hw _ (List.mem_of_getElem? (i := 24) rfl))) (ty := (.array .byte)) (by decide)
  have F_b1_coder_1 : Fld Z h1 b1 "java/lang/AbstractStringBuilder" "coder" "B" (.int (0 : Int32)) := D1 (Or.inl (hw _ (List.mem_of_getElem? (i := 26) rfl))) (ty := .byte) (by decide)
  have F_b1_count_1 : Fld Z h1 b1 "java/lang/AbstractStringBuilder" "count" "I" (.int (0 : Int32)) := D1 (Or.inl (hw _ (List.mem_of_getElem? (i := 57) rfl))) (ty := .int) (by decide)
  show GoesW p e below s _ _ _ T1 (mkF m 3 #[.val (.int p1)] [(.ref b1)])
  refine GoesW.step (fun _ k => XS.dup X1.here hx rfl (hb hby d1_3) rfl rfl k) ?_
  show GoesW p e below s _ _ _ T1 (mkF m 4 #[.val (.int p1)] [(.ref b1), (.ref b1)])
  refine GoesW.step (fun _ k => XS.bipush X1.here hx rfl (hb hby d1_4) k) ?_
  show GoesW p e below s _ _ _ T1 (mkF m 6 #[.val (.int p1)] [(.int (6 : Int32)), (.ref b1), (.ref b1)])
  obtain ⟨v2, T2, h2, L2, X2, e2, Q2, st2⟩ := callXI X1 hx hZ (b := b1) (y := (⟨"java/lang/StringBuilder", "<init>", "(I)V"⟩ : MethodName)) hown rfl (hw _ (List.mem_of_getElem? (i := 8) rfl)) (hw _ (List.mem_of_getElem? (i := 9) rfl)) (hw _ (List.mem_of_getElem? (i := 10) rfl)) (hw _ (List.mem_of_getElem? (i := 7) rfl)) (by decide) (W := 1) (argsL := [(.int (6 : Int32))]) (rest := [(.ref b1)]) (rm2 l Z a0 hw [] b1 G1 h1 n0 z_1 O2 P3 (OL.keep K_1 all0) E_b1_1 F_b1_value_1 F_b1_coder_1 F_b1_count_1 ge_b1) (by decide) (by decide) (by decide) (by decide) e1 (g := (mkF m 6 #[.val (.int p1)] [(.int (6 : Int32)), (.ref b1), (.ref b1)])) rfl (by rw [hml]; rfl) (lenOf pd_1_0 rfl) rfl (by show 2 * 0 + _ ≤ _; exact Nat.le_of_eq rfl) (hb hby d1_6)
  obtain ⟨rfl, NQ2, KQ2, o2, so2, hE2, hV2, hC2, hN2, hA2, hB2⟩ := Q2
  refine GoesW.step st2 ?_
  have E_b1_2 := E_b1_1.keep KQ2
  have z_2 : n0 ≤ h2.size := Nat.le_trans z_1 KQ2.1
  have K_2 : Keep h0 h2 [] := Keep.trans K_1 KQ2 (allS (Or.inr sz_b1) all0)
  have N_2 := Fr.app N0 NQ2
  have ne_b1_o2 : b1 ≠ o2 := Nat.ne_of_lt (Nat.lt_of_lt_of_le E_b1_1.lt so2)
  have ge_o2 : n0 ≤ o2 := Nat.le_trans z_1 so2
  have sz_o2 : h0.size ≤ o2 := Nat.le_trans K_1.1 so2
  show GoesW p e below s _ _ _ T2 (mkF m 9 #[.val (.int p1)] [(.ref b1)])
  obtain ⟨c3, T3, h3, k3, d3, X3, e3, E3, hS3, hk_3, hZ, hown, hE3, hC3, hV3, hB3, I3, Lt3, st3⟩ := ldcI (s := s) (vm0 := s.vm) (text := "\\u") X2 hx hZ hown (hw _ (List.mem_of_getElem? (i := 27) rfl)) wS e2 ((State.WarmedH.refl s).since 0) (Nat.zero_le _) (by rw [hh, ← hn0]; exact N_2) hkeep IB0 (by decide) HC1 hcw (by decide) (n := 2) (by decide) (by decide) (g := (mkF m 9 #[.val (.int p1)] [(.ref b1)])) rfl (hb hby d1_9) (q := 8) (by decide) (by decide) (by decide) (by decide)
  refine GoesW.step st3 ?_
  have hE2_3 := hE2.ext E3
  have hV2_3 := hV2.ext E3
  have hC2_3 := hC2.ext E3
  have hN2_3 := hN2.ext E3
  have hA2_3 := hA2.ext E3
  have hB2_3 := hB2.ext E3
  have z_3 : n0 ≤ h3.size := Nat.le_trans z_2 E3.1
  have K_3 : Keep h0 h3 [] := K_2.ext E3
  have hA3 := hB3.cast own_bsu
  have ne_c3_b1 := Exa.ne hE3 hE2_3 (by decide)
  have ne_c3_o2 := Exa.ne hE3 hB2_3 (by decide)
  have ne_d3_b1 := Ari.neExa hA3 hE2_3 (hw _ (List.mem_of_getElem? (i := 6) rfl))
  have ne_d3_o2 := Ari.neLen hA3 hA2_3 (by decide)
  show GoesW p e below s _ _ _ T3 (mkF m 11 #[.val (.int p1)] [(.ref c3), (.ref b1)])
  obtain ⟨v4, T4, h4, L4, X4, e4, Q4, st4⟩ := callXV X3 hx hZ (C := "java/lang/StringBuilder") (b := b1) (y := (⟨"java/lang/StringBuilder", "append", "(Ljava/lang/String;)Ljava/lang/StringBuilder;"⟩ : MethodName)) (z := (⟨"java/lang/StringBuilder", "append", "(Ljava/lang/String;)Ljava/lang/StringBuilder;"⟩ : MethodName)) hown (hw _ (List.mem_of_getElem? (i := 33) rfl)) (hw _ (List.mem_of_getElem? (i := 34) rfl)) (hw _ (List.mem_of_getElem? (i := 36) rfl)) (hw _ (List.mem_of_getElem? (i := 35) rfl)) (hw _ (List.mem_of_getElem? (i := 37) rfl)) (hw _ (List.mem_of_getElem? (i := 7) rfl)) (notFace_of_selects (args := #[]) (mvT hZ (hw _ (List.mem_of_getElem? (i := 36) rfl)))) (by decide) (W := 0) (argsL := [(.ref c3)]) (rest := []) (rm5 l Z a0 hw [] b1 c3 G1 o2 d3 own_bs (fun _ => 0) h3 n0 z_3 O2 P3 (OL.keep K_3 all0) hE2_3 hV2_3 hC2_3 hN2_3 hA2_3 hB2_3 hE3 hV3 hC3 hA3 ne_b1_o2 ge_b1 ge_o2) (by decide) (by decide) (by decide) (by decide) e3 hE2_3 (g := (mkF m 11 #[.val (.int p1)] [(.ref c3), (.ref b1)])) rfl (by rw [hml]; rfl) (lenOf pd_1_1 rfl) rfl (by show 2 * 0 + _ ≤ _; exact Nat.le_of_eq rfl) (hb hby d1_11)
  obtain ⟨rfl, NQ4, KQ4, hV4, hC4, hN4, hA4⟩ := Q4
  refine GoesW.step st4 ?_
  have hE2_4 := hE2_3.keep KQ4
  have hB2_4 := hB2_3.keep KQ4
  have hE3_4 := hE3.keep KQ4
  have hk_4 := Nat.le_trans hk_3 KQ4.1
  have z_4 : n0 ≤ h4.size := Nat.le_trans z_3 KQ4.1
  have K_4 : Keep h0 h4 [] := Keep.trans K_3 KQ4 (allS (Or.inr sz_b1) (allS (Or.inr sz_o2) all0))
  have N_4 := Fr.app N_2 NQ4
  have hM4 : Fld Z h4 b1 "java/lang/AbstractStringBuilder" "count" "I" (.int (Int32.ofNat 2)) := hN4
  show GoesW p e below s _ _ _ T4 (mkF m 14 #[.val (.int p1)] [(.ref b1)])
  obtain ⟨c5, T5, h5, k5, d5, X5, e5, E5, hS5, hk_5, hZ, hown, hE5, hC5, hV5, hB5, I5, Lt5, st5⟩ := ldcI (s := s) (vm0 := T3.vm) (text := "0123456789abcdef") X4 hx hZ hown (hw _ (List.mem_of_getElem? (i := 83) rfl)) wS e4 hS3 hk_4 (by rw [hh, ← hn0]; exact N_4) hkeep I3 (by decide) HC2 hcw (by decide) (n := 16) (by decide) (by decide) (g := (mkF m 14 #[.val (.int p1)] [(.ref b1)])) rfl (hb hby d1_14) (q := 64) (by decide) (by decide) (by decide) (by decide)
  refine GoesW.step st5 ?_
  have hE2_51 := hE2_4.ext E5
  have hB2_51 := hB2_4.ext E5
  have hE3_51 := hE3_4.ext E5
  have hV4_51 := hV4.ext E5
  have hC4_51 := hC4.ext E5
  have hM4_51 := hM4.ext E5
  have hA4_51 := hA4.ext E5
  have hk_51 := Nat.le_trans hk_4 E5.1
  have z_5 : n0 ≤ h5.size := Nat.le_trans z_4 E5.1
  have K_5 : Keep h0 h5 [] := K_4.ext E5
  have hA5 := hB5.cast own_digs
  have ne_c5_b1 := Exa.ne hE5 hE2_51 (by decide)
  have ne_c5_o2 := Exa.ne hE5 hB2_51 (by decide)
  have ne_d5_b1 := Ari.neExa hA5 hE2_51 (hw _ (List.mem_of_getElem? (i := 6) rfl))
  have ne_d5_o2 := Ari.neLen hA5 hA4_51 (by decide)
  show GoesW p e below s _ _ _ T5 (mkF m 16 #[.val (.int p1)] [(.ref c5), (.ref b1)])
  refine GoesW.step (fun _ k => XS.iloadN X5.here hx rfl (hb hby d1_16) rfl k) ?_
  show GoesW p e below s _ _ _ T5 (mkF m 17 #[.val (.int p1)] [(.int p1), (.ref c5), (.ref b1)])
  refine GoesW.step (fun _ k => XS.bipush X5.here hx rfl (hb hby d1_17) k) ?_
  show GoesW p e below s _ _ _ T5 (mkF m 19 #[.val (.int p1)] [(.int (12 : Int32)), (.int p1), (.ref c5), (.ref b1)])
  refine GoesW.step (fun _ k => XS.ishr X5.here hx rfl (hb hby d1_19) rfl k) ?_
  show GoesW p e below s _ _ _ T5 (mkF m 20 #[.val (.int p1)] [(.int (p1 >>> ((12 : Int32) &&& 31))), (.ref c5), (.ref b1)])
  rw [show (p1 >>> ((12 : Int32) &&& 31)) = Int32.ofNat (nn / 4096) from own_i0 hp1 hnn]
  obtain ⟨T6, X6, e6, st6⟩ := own_pure (r := some (.int (own_ch (own_dig (nn / 4096))))) (fun _ _ _ q => q) (callXV X5 hx hZ (C := "java/lang/String") (b := c5) (y := (⟨"java/lang/String", "charAt", "(I)C"⟩ : MethodName)) (z := (⟨"java/lang/String", "charAt", "(I)C"⟩ : MethodName)) hown (hw _ (List.mem_of_getElem? (i := 84) rfl)) (hw _ (List.mem_of_getElem? (i := 85) rfl)) (hw _ (List.mem_of_getElem? (i := 87) rfl)) (hw _ (List.mem_of_getElem? (i := 86) rfl)) (hw _ (List.mem_of_getElem? (i := 88) rfl)) (hw _ (List.mem_of_getElem? (i := 21) rfl)) (notFace_of_selects (args := #[]) (mvT hZ (hw _ (List.mem_of_getElem? (i := 87) rfl)))) (by decide) (W := 1) (argsL := [(.int (Int32.ofNat (nn / 4096)))]) (rest := [(.ref b1)]) (rm13 l Z a0 hw [] c5 (Int32.ofNat (nn / 4096)) G1 oF d5 16 own_dig (nn / 4096) h5 n0 z_5 O2 P3 (OL.keep K_5 all0) O4 hE5 hV5 hC5 hA5 rfl (by omega)) (by decide) (by decide) (by decide) (by decide) e5 hE5 (g := (mkF m 20 #[.val (.int p1)] [(.int (Int32.ofNat (nn / 4096))), (.ref c5), (.ref b1)])) rfl (by rw [hml]; rfl) (lenOf pd_1_2 rfl) rfl (by show 2 * 0 + _ ≤ _; exact Nat.le_of_eq rfl) (hb hby d1_20))
  refine GoesW.step st6 ?_
  show GoesW p e below s _ _ _ T6 (mkF m 23 #[.val (.int p1)] [(.int (own_ch (own_dig (nn / 4096)))), (.ref b1)])
  obtain ⟨v7, T7, h7, L7, X7, e7, Q7, st7⟩ := callXV X6 hx hZ (C := "java/lang/StringBuilder") (b := b1) (y := (⟨"java/lang/StringBuilder", "append", "(C)Ljava/lang/StringBuilder;"⟩ : MethodName)) (z := (⟨"java/lang/StringBuilder", "append", "(C)Ljava/lang/StringBuilder;"⟩ : MethodName)) hown (hw _ (List.mem_of_getElem? (i := 106) rfl)) (hw _ (List.mem_of_getElem? (i := 107) rfl)) (hw _ (List.mem_of_getElem? (i := 109) rfl)) (hw _ (List.mem_of_getElem? (i := 108) rfl)) (hw _ (List.mem_of_getElem? (i := 110) rfl)) (hw _ (List.mem_of_getElem? (i := 7) rfl)) (notFace_of_selects (args := #[]) (mvT hZ (hw _ (List.mem_of_getElem? (i := 109) rfl)))) (by decide) (W := 0) (argsL := [(.int (own_ch (own_dig (nn / 4096))))]) (rest := []) (rm18 l Z a0 hw [] b1 (own_ch (own_dig (nn / 4096))) G1 o2 (blit own_bs (fun _ => 0) 0 0 2) 2 h5 n0 z_5 O2 P3 (OL.keep K_5 all0) hE2_51 hV4_51 hC4_51 hM4_51 hA4_51 hB2_51 ne_b1_o2 ge_b1 ge_o2 (by decide) (own_enc (nn / 4096) (by omega))) (by decide) (by decide) (by decide) (by decide) e6 hE2_51 (g := (mkF m 23 #[.val (.int p1)] [(.int (own_ch (own_dig (nn / 4096)))), (.ref b1)])) rfl (by rw [hml]; rfl) (lenOf pd_1_3 rfl) rfl (by show 2 * 0 + _ ≤ _; exact Nat.le_of_eq rfl) (hb hby d1_23)
  obtain ⟨rfl, NQ7, KQ7, hV7, hC7, hN7, hA7⟩ := Q7
  refine GoesW.step st7 ?_
  have hE2_7 := hE2_51.keep KQ7
  have hB2_7 := hB2_51.keep KQ7
  have hE3_7 := hE3_51.keep KQ7
  have hE5_7 := hE5.keep KQ7
  have hV5_7 := hV5.keep KQ7 (ninS ne_c5_b1 (ninS ne_c5_o2 nin0))
  have hC5_7 := hC5.keep KQ7 (ninS ne_c5_b1 (ninS ne_c5_o2 nin0))
  have hA5_7 := hA5.keep KQ7 (ninS ne_d5_b1 (ninS ne_d5_o2 nin0))
  have hk_7 := Nat.le_trans hk_5 KQ7.1
  have z_7 : n0 ≤ h7.size := Nat.le_trans z_5 KQ7.1
  have K_7 : Keep h0 h7 [] := Keep.trans K_5 KQ7 (allS (Or.inr sz_b1) (allS (Or.inr sz_o2) all0))
  have N_7 := Fr.app N_4 NQ7
  have hM7 : Fld Z h7 b1 "java/lang/AbstractStringBuilder" "count" "I" (.int (Int32.ofNat 3)) := by have q := hN7; rw [own_succ] at q; exact q
  show GoesW p e below s _ _ _ T7 (mkF m 26 #[.val (.int p1)] [(.ref b1)])
  refine GoesW.step (fun _ k => ldcAgain (s := s) (vm0 := T5.vm) X7 hx hZ hown (hw _ (List.mem_of_getElem? (i := 83) rfl)) Lt5 (g := (mkF m 26 #[.val (.int p1)] [(.ref b1)])) rfl (hb hby d1_26) _ k) ?_
  show GoesW p e below s _ _ _ T7 (mkF m 28 #[.val (.int p1)] [(.ref c5), (.ref b1)])
  refine GoesW.step (fun _ k => XS.iloadN X7.here hx rfl (hb hby d1_28) rfl k) ?_
  show GoesW p e below s _ _ _ T7 (mkF m 29 #[.val (.int p1)] [(.int p1), (.ref c5), (.ref b1)])
  refine GoesW.step (fun _ k => XS.bipush X7.here hx rfl (hb hby d1_29) k) ?_
  show GoesW p e below s _ _ _ T7 (mkF m 31 #[.val (.int p1)] [(.int (8 : Int32)), (.int p1), (.ref c5), (.ref b1)])
  refine GoesW.step (fun _ k => XS.ishr X7.here hx rfl (hb hby d1_31) rfl k) ?_
  show GoesW p e below s _ _ _ T7 (mkF m 32 #[.val (.int p1)] [(.int (p1 >>> ((8 : Int32) &&& 31))), (.ref c5), (.ref b1)])
  refine GoesW.step (fun _ k => XS.bipush X7.here hx rfl (hb hby d1_32) k) ?_
  show GoesW p e below s _ _ _ T7 (mkF m 34 #[.val (.int p1)] [(.int (15 : Int32)), (.int (p1 >>> ((8 : Int32) &&& 31))), (.ref c5), (.ref b1)])
  refine GoesW.step (fun _ k => XS.iand X7.here hx rfl (hb hby d1_34) rfl k) ?_
  show GoesW p e below s _ _ _ T7 (mkF m 35 #[.val (.int p1)] [(.int ((p1 >>> ((8 : Int32) &&& 31)) &&& (15 : Int32))), (.ref c5), (.ref b1)])
  rw [show ((p1 >>> ((8 : Int32) &&& 31)) &&& (15 : Int32)) = Int32.ofNat (nn / 256 % 16) from own_i1 hp1 hnn]
  obtain ⟨T8, X8, e8, st8⟩ := own_pure (r := some (.int (own_ch (own_dig (nn / 256 % 16))))) (fun _ _ _ q => q) (callXV X7 hx hZ (C := "java/lang/String") (b := c5) (y := (⟨"java/lang/String", "charAt", "(I)C"⟩ : MethodName)) (z := (⟨"java/lang/String", "charAt", "(I)C"⟩ : MethodName)) hown (hw _ (List.mem_of_getElem? (i := 84) rfl)) (hw _ (List.mem_of_getElem? (i := 85) rfl)) (hw _ (List.mem_of_getElem? (i := 87) rfl)) (hw _ (List.mem_of_getElem? (i := 86) rfl)) (hw _ (List.mem_of_getElem? (i := 88) rfl)) (hw _ (List.mem_of_getElem? (i := 21) rfl)) (notFace_of_selects (args := #[]) (mvT hZ (hw _ (List.mem_of_getElem? (i := 87) rfl)))) (by decide) (W := 1) (argsL := [(.int (Int32.ofNat (nn / 256 % 16)))]) (rest := [(.ref b1)]) (rm13 l Z a0 hw [] c5 (Int32.ofNat (nn / 256 % 16)) G1 oF d5 16 own_dig (nn / 256 % 16) h7 n0 z_7 O2 P3 (OL.keep K_7 all0) O4 hE5_7 hV5_7 hC5_7 hA5_7 rfl (by omega)) (by decide) (by decide) (by decide) (by decide) e7 hE5_7 (g := (mkF m 35 #[.val (.int p1)] [(.int (Int32.ofNat (nn / 256 % 16))), (.ref c5), (.ref b1)])) rfl (by rw [hml]; rfl) (lenOf pd_1_2 rfl) rfl (by show 2 * 0 + _ ≤ _; exact Nat.le_of_eq rfl) (hb hby d1_35))
  refine GoesW.step st8 ?_
  show GoesW p e below s _ _ _ T8 (mkF m 38 #[.val (.int p1)] [(.int (own_ch (own_dig (nn / 256 % 16)))), (.ref b1)])
  obtain ⟨v9, T9, h9, L9, X9, e9, Q9, st9⟩ := callXV X8 hx hZ (C := "java/lang/StringBuilder") (b := b1) (y := (⟨"java/lang/StringBuilder", "append", "(C)Ljava/lang/StringBuilder;"⟩ : MethodName)) (z := (⟨"java/lang/StringBuilder", "append", "(C)Ljava/lang/StringBuilder;"⟩ : MethodName)) hown (hw _ (List.mem_of_getElem? (i := 106) rfl)) (hw _ (List.mem_of_getElem? (i := 107) rfl)) (hw _ (List.mem_of_getElem? (i := 109) rfl)) (hw _ (List.mem_of_getElem? (i := 108) rfl)) (hw _ (List.mem_of_getElem? (i := 110) rfl)) (hw _ (List.mem_of_getElem? (i := 7) rfl)) (notFace_of_selects (args := #[]) (mvT hZ (hw _ (List.mem_of_getElem? (i := 109) rfl)))) (by decide) (W := 0) (argsL := [(.int (own_ch (own_dig (nn / 256 % 16))))]) (rest := []) (rm18 l Z a0 hw [] b1 (own_ch (own_dig (nn / 256 % 16))) G1 o2 (updI (blit own_bs (fun _ => 0) 0 0 2) 2 (((own_ch (own_dig (nn / 4096))).toInt8.toInt32).toInt8.toInt32)) 3 h7 n0 z_7 O2 P3 (OL.keep K_7 all0) hE2_7 hV7 hC7 hM7 hA7 hB2_7 ne_b1_o2 ge_b1 ge_o2 (by decide) (own_enc (nn / 256 % 16) (by omega))) (by decide) (by decide) (by decide) (by decide) e8 hE2_7 (g := (mkF m 38 #[.val (.int p1)] [(.int (own_ch (own_dig (nn / 256 % 16)))), (.ref b1)])) rfl (by rw [hml]; rfl) (lenOf pd_1_3 rfl) rfl (by show 2 * 0 + _ ≤ _; exact Nat.le_of_eq rfl) (hb hby d1_38)
  obtain ⟨rfl, NQ9, KQ9, hV9, hC9, hN9, hA9⟩ := Q9
  refine GoesW.step st9 ?_
  have hE2_9 := hE2_7.keep KQ9
  have hB2_9 := hB2_7.keep KQ9
  have hE3_9 := hE3_7.keep KQ9
  have hE5_9 := hE5_7.keep KQ9
  have hV5_9 := hV5_7.keep KQ9 (ninS ne_c5_b1 (ninS ne_c5_o2 nin0))
  have hC5_9 := hC5_7.keep KQ9 (ninS ne_c5_b1 (ninS ne_c5_o2 nin0))
  have hA5_9 := hA5_7.keep KQ9 (ninS ne_d5_b1 (ninS ne_d5_o2 nin0))
  have hk_9 := Nat.le_trans hk_7 KQ9.1
  have z_9 : n0 ≤ h9.size := Nat.le_trans z_7 KQ9.1
  have K_9 : Keep h0 h9 [] := Keep.trans K_7 KQ9 (allS (Or.inr sz_b1) (allS (Or.inr sz_o2) all0))
  have N_9 := Fr.app N_7 NQ9
  have hM9 : Fld Z h9 b1 "java/lang/AbstractStringBuilder" "count" "I" (.int (Int32.ofNat 4)) := by have q := hN9; rw [own_succ] at q; exact q
  show GoesW p e below s _ _ _ T9 (mkF m 41 #[.val (.int p1)] [(.ref b1)])
  refine GoesW.step (fun _ k => ldcAgain (s := s) (vm0 := T5.vm) X9 hx hZ hown (hw _ (List.mem_of_getElem? (i := 83) rfl)) Lt5 (g := (mkF m 41 #[.val (.int p1)] [(.ref b1)])) rfl (hb hby d1_41) _ k) ?_
  show GoesW p e below s _ _ _ T9 (mkF m 43 #[.val (.int p1)] [(.ref c5), (.ref b1)])
  refine GoesW.step (fun _ k => XS.iloadN X9.here hx rfl (hb hby d1_43) rfl k) ?_
  show GoesW p e below s _ _ _ T9 (mkF m 44 #[.val (.int p1)] [(.int p1), (.ref c5), (.ref b1)])
  refine GoesW.step (fun _ k => XS.iconst X9.here hx rfl (hb hby d1_44) k) ?_
  show GoesW p e below s _ _ _ T9 (mkF m 45 #[.val (.int p1)] [(.int (4 : Int32)), (.int p1), (.ref c5), (.ref b1)])
  refine GoesW.step (fun _ k => XS.ishr X9.here hx rfl (hb hby d1_45) rfl k) ?_
  show GoesW p e below s _ _ _ T9 (mkF m 46 #[.val (.int p1)] [(.int (p1 >>> ((4 : Int32) &&& 31))), (.ref c5), (.ref b1)])
  refine GoesW.step (fun _ k => XS.bipush X9.here hx rfl (hb hby d1_46) k) ?_
  show GoesW p e below s _ _ _ T9 (mkF m 48 #[.val (.int p1)] [(.int (15 : Int32)), (.int (p1 >>> ((4 : Int32) &&& 31))), (.ref c5), (.ref b1)])
  refine GoesW.step (fun _ k => XS.iand X9.here hx rfl (hb hby d1_48) rfl k) ?_
  show GoesW p e below s _ _ _ T9 (mkF m 49 #[.val (.int p1)] [(.int ((p1 >>> ((4 : Int32) &&& 31)) &&& (15 : Int32))), (.ref c5), (.ref b1)])
  rw [show ((p1 >>> ((4 : Int32) &&& 31)) &&& (15 : Int32)) = Int32.ofNat (nn / 16 % 16) from own_i2 hp1 hnn]
  obtain ⟨T10, X10, e10, st10⟩ := own_pure (r := some (.int (own_ch (own_dig (nn / 16 % 16))))) (fun _ _ _ q => q) (callXV X9 hx hZ (C := "java/lang/String") (b := c5) (y := (⟨"java/lang/String", "charAt", "(I)C"⟩ : MethodName)) (z := (⟨"java/lang/String", "charAt", "(I)C"⟩ : MethodName)) hown (hw _ (List.mem_of_getElem? (i := 84) rfl)) (hw _ (List.mem_of_getElem? (i := 85) rfl)) (hw _ (List.mem_of_getElem? (i := 87) rfl)) (hw _ (List.mem_of_getElem? (i := 86) rfl)) (hw _ (List.mem_of_getElem? (i := 88) rfl)) (hw _ (List.mem_of_getElem? (i := 21) rfl)) (notFace_of_selects (args := #[]) (mvT hZ (hw _ (List.mem_of_getElem? (i := 87) rfl)))) (by decide) (W := 1) (argsL := [(.int (Int32.ofNat (nn / 16 % 16)))]) (rest := [(.ref b1)]) (rm13 l Z a0 hw [] c5 (Int32.ofNat (nn / 16 % 16)) G1 oF d5 16 own_dig (nn / 16 % 16) h9 n0 z_9 O2 P3 (OL.keep K_9 all0) O4 hE5_9 hV5_9 hC5_9 hA5_9 rfl (by omega)) (by decide) (by decide) (by decide) (by decide) e9 hE5_9 (g := (mkF m 49 #[.val (.int p1)] [(.int (Int32.ofNat (nn / 16 % 16))), (.ref c5), (.ref b1)])) rfl (by rw [hml]; rfl) (lenOf pd_1_2 rfl) rfl (by show 2 * 0 + _ ≤ _; exact Nat.le_of_eq rfl) (hb hby d1_49))
  refine GoesW.step st10 ?_
  show GoesW p e below s _ _ _ T10 (mkF m 52 #[.val (.int p1)] [(.int (own_ch (own_dig (nn / 16 % 16)))), (.ref b1)])
  obtain ⟨v11, T11, h11, L11, X11, e11, Q11, st11⟩ := callXV X10 hx hZ (C := "java/lang/StringBuilder") (b := b1) (y := (⟨"java/lang/StringBuilder", "append", "(C)Ljava/lang/StringBuilder;"⟩ : MethodName)) (z := (⟨"java/lang/StringBuilder", "append", "(C)Ljava/lang/StringBuilder;"⟩ : MethodName)) hown (hw _ (List.mem_of_getElem? (i := 106) rfl)) (hw _ (List.mem_of_getElem? (i := 107) rfl)) (hw _ (List.mem_of_getElem? (i := 109) rfl)) (hw _ (List.mem_of_getElem? (i := 108) rfl)) (hw _ (List.mem_of_getElem? (i := 110) rfl)) (hw _ (List.mem_of_getElem? (i := 7) rfl)) (notFace_of_selects (args := #[]) (mvT hZ (hw _ (List.mem_of_getElem? (i := 109) rfl)))) (by decide) (W := 0) (argsL := [(.int (own_ch (own_dig (nn / 16 % 16))))]) (rest := []) (rm18 l Z a0 hw [] b1 (own_ch (own_dig (nn / 16 % 16))) G1 o2 (updI (updI (blit own_bs (fun _ => 0) 0 0 2) 2 (((own_ch (own_dig (nn / 4096))).toInt8.toInt32).toInt8.toInt32)) 3 (((own_ch (own_dig (nn / 256 % 16))).toInt8.toInt32).toInt8.toInt32)) 4 h9 n0 z_9 O2 P3 (OL.keep K_9 all0) hE2_9 hV9 hC9 hM9 hA9 hB2_9 ne_b1_o2 ge_b1 ge_o2 (by decide) (own_enc (nn / 16 % 16) (by omega))) (by decide) (by decide) (by decide) (by decide) e10 hE2_9 (g := (mkF m 52 #[.val (.int p1)] [(.int (own_ch (own_dig (nn / 16 % 16)))), (.ref b1)])) rfl (by rw [hml]; rfl) (lenOf pd_1_3 rfl) rfl (by show 2 * 0 + _ ≤ _; exact Nat.le_of_eq rfl) (hb hby d1_52)
  obtain ⟨rfl, NQ11, KQ11, hV11, hC11, hN11, hA11⟩ := Q11
  refine GoesW.step st11 ?_
  have hE2_11 := hE2_9.keep KQ11
  have hB2_11 := hB2_9.keep KQ11
  have hE3_11 := hE3_9.keep KQ11
  have hE5_11 := hE5_9.keep KQ11
  have hV5_11 := hV5_9.keep KQ11 (ninS ne_c5_b1 (ninS ne_c5_o2 nin0))
  have hC5_11 := hC5_9.keep KQ11 (ninS ne_c5_b1 (ninS ne_c5_o2 nin0))
  have hA5_11 := hA5_9.keep KQ11 (ninS ne_d5_b1 (ninS ne_d5_o2 nin0))
  have hk_11 := Nat.le_trans hk_9 KQ11.1
  have z_11 : n0 ≤ h11.size := Nat.le_trans z_9 KQ11.1
  have K_11 : Keep h0 h11 [] := Keep.trans K_9 KQ11 (allS (Or.inr sz_b1) (allS (Or.inr sz_o2) all0))
  have N_11 := Fr.app N_9 NQ11
  have hM11 : Fld Z h11 b1 "java/lang/AbstractStringBuilder" "count" "I" (.int (Int32.ofNat 5)) := by have q := hN11; rw [own_succ] at q; exact q
  show GoesW p e below s _ _ _ T11 (mkF m 55 #[.val (.int p1)] [(.ref b1)])
  refine GoesW.step (fun _ k => ldcAgain (s := s) (vm0 := T5.vm) X11 hx hZ hown (hw _ (List.mem_of_getElem? (i := 83) rfl)) Lt5 (g := (mkF m 55 #[.val (.int p1)] [(.ref b1)])) rfl (hb hby d1_55) _ k) ?_
  show GoesW p e below s _ _ _ T11 (mkF m 57 #[.val (.int p1)] [(.ref c5), (.ref b1)])
  refine GoesW.step (fun _ k => XS.iloadN X11.here hx rfl (hb hby d1_57) rfl k) ?_
  show GoesW p e below s _ _ _ T11 (mkF m 58 #[.val (.int p1)] [(.int p1), (.ref c5), (.ref b1)])
  refine GoesW.step (fun _ k => XS.bipush X11.here hx rfl (hb hby d1_58) k) ?_
  show GoesW p e below s _ _ _ T11 (mkF m 60 #[.val (.int p1)] [(.int (15 : Int32)), (.int p1), (.ref c5), (.ref b1)])
  refine GoesW.step (fun _ k => XS.iand X11.here hx rfl (hb hby d1_60) rfl k) ?_
  show GoesW p e below s _ _ _ T11 (mkF m 61 #[.val (.int p1)] [(.int (p1 &&& (15 : Int32))), (.ref c5), (.ref b1)])
  rw [show (p1 &&& (15 : Int32)) = Int32.ofNat (nn % 16) from own_i3 hp1 hnn]
  obtain ⟨T12, X12, e12, st12⟩ := own_pure (r := some (.int (own_ch (own_dig (nn % 16))))) (fun _ _ _ q => q) (callXV X11 hx hZ (C := "java/lang/String") (b := c5) (y := (⟨"java/lang/String", "charAt", "(I)C"⟩ : MethodName)) (z := (⟨"java/lang/String", "charAt", "(I)C"⟩ : MethodName)) hown (hw _ (List.mem_of_getElem? (i := 84) rfl)) (hw _ (List.mem_of_getElem? (i := 85) rfl)) (hw _ (List.mem_of_getElem? (i := 87) rfl)) (hw _ (List.mem_of_getElem? (i := 86) rfl)) (hw _ (List.mem_of_getElem? (i := 88) rfl)) (hw _ (List.mem_of_getElem? (i := 21) rfl)) (notFace_of_selects (args := #[]) (mvT hZ (hw _ (List.mem_of_getElem? (i := 87) rfl)))) (by decide) (W := 1) (argsL := [(.int (Int32.ofNat (nn % 16)))]) (rest := [(.ref b1)]) (rm13 l Z a0 hw [] c5 (Int32.ofNat (nn % 16)) G1 oF d5 16 own_dig (nn % 16) h11 n0 z_11 O2 P3 (OL.keep K_11 all0) O4 hE5_11 hV5_11 hC5_11 hA5_11 rfl (by omega)) (by decide) (by decide) (by decide) (by decide) e11 hE5_11 (g := (mkF m 61 #[.val (.int p1)] [(.int (Int32.ofNat (nn % 16))), (.ref c5), (.ref b1)])) rfl (by rw [hml]; rfl) (lenOf pd_1_2 rfl) rfl (by show 2 * 0 + _ ≤ _; exact Nat.le_of_eq rfl) (hb hby d1_61))
  refine GoesW.step st12 ?_
  show GoesW p e below s _ _ _ T12 (mkF m 64 #[.val (.int p1)] [(.int (own_ch (own_dig (nn % 16)))), (.ref b1)])
  obtain ⟨v13, T13, h13, L13, X13, e13, Q13, st13⟩ := callXV X12 hx hZ (C := "java/lang/StringBuilder") (b := b1) (y := (⟨"java/lang/StringBuilder", "append", "(C)Ljava/lang/StringBuilder;"⟩ : MethodName)) (z := (⟨"java/lang/StringBuilder", "append", "(C)Ljava/lang/StringBuilder;"⟩ : MethodName)) hown (hw _ (List.mem_of_getElem? (i := 106) rfl)) (hw _ (List.mem_of_getElem? (i := 107) rfl)) (hw _ (List.mem_of_getElem? (i := 109) rfl)) (hw _ (List.mem_of_getElem? (i := 108) rfl)) (hw _ (List.mem_of_getElem? (i := 110) rfl)) (hw _ (List.mem_of_getElem? (i := 7) rfl)) (notFace_of_selects (args := #[]) (mvT hZ (hw _ (List.mem_of_getElem? (i := 109) rfl)))) (by decide) (W := 0) (argsL := [(.int (own_ch (own_dig (nn % 16))))]) (rest := []) (rm18 l Z a0 hw [] b1 (own_ch (own_dig (nn % 16))) G1 o2 (updI (updI (updI (blit own_bs (fun _ => 0) 0 0 2) 2 (((own_ch (own_dig (nn / 4096))).toInt8.toInt32).toInt8.toInt32)) 3 (((own_ch (own_dig (nn / 256 % 16))).toInt8.toInt32).toInt8.toInt32)) 4 (((own_ch (own_dig (nn / 16 % 16))).toInt8.toInt32).toInt8.toInt32)) 5 h11 n0 z_11 O2 P3 (OL.keep K_11 all0) hE2_11 hV11 hC11 hM11 hA11 hB2_11 ne_b1_o2 ge_b1 ge_o2 (by decide) (own_enc (nn % 16) (by omega))) (by decide) (by decide) (by decide) (by decide) e12 hE2_11 (g := (mkF m 64 #[.val (.int p1)] [(.int (own_ch (own_dig (nn % 16)))), (.ref b1)])) rfl (by rw [hml]; rfl) (lenOf pd_1_3 rfl) rfl (by show 2 * 0 + _ ≤ _; exact Nat.le_of_eq rfl) (hb hby d1_64)
  obtain ⟨rfl, NQ13, KQ13, hV13, hC13, hN13, hA13⟩ := Q13
  refine GoesW.step st13 ?_
  have hE2_13 := hE2_11.keep KQ13
  have hB2_13 := hB2_11.keep KQ13
  have hE3_13 := hE3_11.keep KQ13
  have hE5_13 := hE5_11.keep KQ13
  have hV5_13 := hV5_11.keep KQ13 (ninS ne_c5_b1 (ninS ne_c5_o2 nin0))
  have hC5_13 := hC5_11.keep KQ13 (ninS ne_c5_b1 (ninS ne_c5_o2 nin0))
  have hA5_13 := hA5_11.keep KQ13 (ninS ne_d5_b1 (ninS ne_d5_o2 nin0))
  have hk_13 := Nat.le_trans hk_11 KQ13.1
  have z_13 : n0 ≤ h13.size := Nat.le_trans z_11 KQ13.1
  have K_13 : Keep h0 h13 [] := Keep.trans K_11 KQ13 (allS (Or.inr sz_b1) (allS (Or.inr sz_o2) all0))
  have N_13 := Fr.app N_11 NQ13
  have hM13 : Fld Z h13 b1 "java/lang/AbstractStringBuilder" "count" "I" (.int (Int32.ofNat 6)) := by have q := hN13; rw [own_succ] at q; exact q
  show GoesW p e below s _ _ _ T13 (mkF m 67 #[.val (.int p1)] [(.ref b1)])
  obtain ⟨v14, T14, h14, L14, X14, e14, Q14, st14⟩ := callXV X13 hx hZ (C := "java/lang/StringBuilder") (b := b1) (y := (⟨"java/lang/StringBuilder", "toString", "()Ljava/lang/String;"⟩ : MethodName)) (z := (⟨"java/lang/StringBuilder", "toString", "()Ljava/lang/String;"⟩ : MethodName)) hown (hw _ (List.mem_of_getElem? (i := 123) rfl)) (hw _ (List.mem_of_getElem? (i := 124) rfl)) (hw _ (List.mem_of_getElem? (i := 126) rfl)) (hw _ (List.mem_of_getElem? (i := 125) rfl)) (hw _ (List.mem_of_getElem? (i := 127) rfl)) (hw _ (List.mem_of_getElem? (i := 7) rfl)) (notFace_of_selects (args := #[]) (mvT hZ (hw _ (List.mem_of_getElem? (i := 126) rfl)))) (by decide) (W := 0) (argsL := []) (rest := []) (rm22 l Z a0 hw [] b1 G1 o2 (updI (updI (updI (updI (blit own_bs (fun _ => 0) 0 0 2) 2 (((own_ch (own_dig (nn / 4096))).toInt8.toInt32).toInt8.toInt32)) 3 (((own_ch (own_dig (nn / 256 % 16))).toInt8.toInt32).toInt8.toInt32)) 4 (((own_ch (own_dig (nn / 16 % 16))).toInt8.toInt32).toInt8.toInt32)) 5 (((own_ch (own_dig (nn % 16))).toInt8.toInt32).toInt8.toInt32)) h13 n0 z_13 O2 P3 (OL.keep K_13 all0) hE2_13 hV13 hC13 hM13 hA13 hB2_13) (by decide) (by decide) (by decide) (by decide) e13 hE2_13 (g := (mkF m 67 #[.val (.int p1)] [(.ref b1)])) rfl (by rw [hml]; rfl) (lenOf pd_1_4 rfl) rfl (by show 2 * 0 + _ ≤ _; exact Nat.le_of_eq rfl) (hb hby d1_67)
  obtain ⟨o14, v14, rfl, NQ14, KQ14, hE14, hV14, hC14, hA14⟩ := Q14
  refine GoesW.step st14 ?_
  have hE2_14 := hE2_13.keep KQ14
  have hB2_14 := hB2_13.keep KQ14
  have hE3_14 := hE3_13.keep KQ14
  have hE5_14 := hE5_13.keep KQ14
  have hV5_14 := hV5_13.keep KQ14 nin0
  have hC5_14 := hC5_13.keep KQ14 nin0
  have hA5_14 := hA5_13.keep KQ14 nin0
  have hV13_14 := hV13.keep KQ14 nin0
  have hC13_14 := hC13.keep KQ14 nin0
  have hM13_14 := hM13.keep KQ14 nin0
  have hA13_14 := hA13.keep KQ14 nin0
  have hk_14 := Nat.le_trans hk_13 KQ14.1
  have z_14 : n0 ≤ h14.size := Nat.le_trans z_13 KQ14.1
  have K_14 : Keep h0 h14 [] := Keep.trans K_13 KQ14 all0
  have N_14 := Fr.app N_13 NQ14
  show GoesW p e below s _ _ _ T14 (mkF m 70 #[.val (.int p1)] [(.ref o14)])
  exact GoesW.outR (s := s) (vm₁ := T5.vm) X14 hS5 (by rw [e14]; exact hk_14) hx hlk Bd.returns rfl rfl (hb hby d1_70) (by rw [e14]; exact ⟨o14, v14, rfl, N_14, K_14, hE14, hV14, hC14, hA14⟩) (by decide) (by decide)
theorem pn_0 : plainName "com/example/cartouche/cartouche/ControlCharactersUnicodeEscapePinLaw" = true := by first | (simp [plainName, overriddenIn]; done) | decide +kernel
theorem pd_0_0 : parseMethodDescriptor "(C)Ljava/lang/String;" = some ⟨[.char], some (.object "java/lang/String")⟩ := by decide +kernel
theorem pd_0_1 : parseMethodDescriptor "()I" = some ⟨[], some .int⟩ := by decide +kernel
theorem pd_0_2 : parseMethodDescriptor "(I)C" = some ⟨[.int], some .char⟩ := by decide +kernel
theorem pd_0_3 : parseMethodDescriptor "(C)I" = some ⟨[.char], some .int⟩ := by decide +kernel
theorem ef_0 (m : MethodId) (p1 : Int32) : entryFrame m #[(.int p1)] maxLocals = mkF m 0 #[.val (.int p1), .unset, .unset, .unset, .unset, .unset, .unset] [] := by first | (simp [entryFrame, mkF, argsToLocals, Value.category, maxLocals]; done) | rfl
def Q0 (Z : State) (p1 : Int32) (G1 : Int32) (oF : Option Addr) (h0 : Heap) (n0 : Nat) (v : Option Value) (h : Heap) (L : List Loc) : Prop := v = some (.int (1 : Int32)) ∧ Fr n0 L
set_option maxRecDepth 65536 in
set_option maxHeartbeats 40000000 in
theorem rm0 (l : Launch) (Z : State) (a0 : Array Value) (hw : ∀ d ∈ tables_1, d.before a0 Z = true) (ws : List Jvm.Cond) (p1 : Int32) (G1 : Int32) (oF : Option Addr) (h0 : Heap) (n0 : Nat) (Z0 : n0 ≤ h0.size) (O2 : Sta Z Z.heap "java/lang/String" "COMPACT_STRINGS" "Z" (.int G1)) (P3 : ¬ (G1 = (0 : Int32))) (OL : Old Z n0 h0) (O4 : Sta Z Z.heap "jdk/internal/util/Preconditions" "SIOOBE_FORMATTER" "Ljava/util/function/BiFunction;" (ov oF)) (hn0 : n0 = h0.size) (HC1 : Jvm.Lit.constHeld Z "com/example/cartouche/cartouche/ControlCharacters" 50) (HC2 : Jvm.Lit.constHeld Z "com/example/cartouche/cartouche/ControlCharacters" 52) (hcw : Jvm.Lit.compactW.before a0 Z = true) :
    MetFree l x (head1 (Jvm.Cond.code x code maxLocals ret :: ws) room_1) (fun a U => a = #[(.int p1)] ∧ Z.Warmed39 U.vm ∧ U.heap = h0 ∧ U.vm.interned = Z.vm.interned) (fun _ _ _ _ _ => True) (fun _ U o U' => ∃ v L, o = .returned v ∧ Q0 Z p1 G1 oF h0 n0 v U'.heap L ∧ ReturnedEndW U o U' L room_1.cells room_1.slots) := by
  refine MetFree.of_bodySF (plainFor_of_name pn_0) hisR ?_
  intro p e s m args below meth c s₁ Bd hml0 hP hK
  obtain ⟨rfl, hZ, hh, hI⟩ := hP
  have hx := Bd.exec
  have hby := Bd.bytes
  have hlk := Bd.notSynchronized
  have hml : c.maxLocals = 7 := hml0
  have hown : s.vm.findClass "com/example/cartouche/cartouche/ControlCharactersUnicodeEscapePinLaw" = some m.cls := findClass_of_methodNamed Bd.named
  have hnm := (name_of_methodNamed Bd.named Bd.method).1
  have X0 : Stand p l e room_1 s m #[(.int p1)] below meth c s₁ [] 0 0 := Stand.of_body Bd
  have e0 : s₁.heap = h0 := by rw [← hh, Bd.state]; rfl
  have N0 := Fr.nil n0
  have K0 : Keep h0 h0 [] := Keep.refl h0 _
  show GoesW p e below s room_1.cells room_1.slots (Q0 Z p1 G1 oF h0 n0) s₁ (entryFrame m #[(.int p1)] maxLocals)
  refine GoesW.step (fun t k => castTop (ef_0 m p1) k) ?_
  refine GoesW.step (fun _ k => XS.iloadN X0.here hx rfl (hb hby at_0) rfl k) ?_
  show GoesW p e below s _ _ _ s₁ (mkF m 1 #[.val (.int p1), .unset, .unset, .unset, .unset, .unset, .unset] [(.int p1)])
  refine GoesW.step (fun _ k => X0.ldcInt hx hown (mvT hZ (hw _ (List.mem_of_getElem? (i := 0) rfl))) (g := (mkF m 1 #[.val (.int p1), .unset, .unset, .unset, .unset, .unset, .unset] [(.int p1)])) rfl (hb hby at_1) _ k) ?_
  show GoesW p e below s _ _ _ s₁ (mkF m 3 #[.val (.int p1), .unset, .unset, .unset, .unset, .unset, .unset] [(.int (65535 : Int32)), (.int p1)])
  refine GoesW.step (fun _ k => XS.iand X0.here hx rfl (hb hby at_3) rfl k) ?_
  show GoesW p e below s _ _ _ s₁ (mkF m 4 #[.val (.int p1), .unset, .unset, .unset, .unset, .unset, .unset] [(.int (p1 &&& (65535 : Int32)))])
  refine GoesW.step (fun _ k => XS.i2c X0.here hx rfl (hb hby at_4) rfl k) ?_
  show GoesW p e below s _ _ _ s₁ (mkF m 5 #[.val (.int p1), .unset, .unset, .unset, .unset, .unset, .unset] [(.int ((p1 &&& (65535 : Int32)).toUInt32.toUInt16.toUInt32.toInt32))])
  obtain ⟨nn, hnn, en⟩ := own_cc p1
  rw [en]
  refine GoesW.step (fun _ k => XS.istoreN X0.here hx rfl (hb hby at_5) rfl (l' := #[.val (.int p1), .val (.int (Int32.ofNat nn)), .unset, .unset, .unset, .unset, .unset]) rfl k) ?_
  show GoesW p e below s _ _ _ s₁ (mkF m 6 #[.val (.int p1), .val (.int (Int32.ofNat nn)), .unset, .unset, .unset, .unset, .unset] [])
  refine GoesW.step (fun _ k => XS.iloadN X0.here hx rfl (hb hby at_6) rfl k) ?_
  show GoesW p e below s _ _ _ s₁ (mkF m 7 #[.val (.int p1), .val (.int (Int32.ofNat nn)), .unset, .unset, .unset, .unset, .unset] [(.int (Int32.ofNat nn))])
  obtain ⟨v1, T1, h1, L1, X1, e1, hS1, hZ, hown, Q1, st1⟩ := callXW X0 hx hZ hI (y := (⟨"com/example/cartouche/cartouche/ControlCharacters", "unicodeEscape", "(C)Ljava/lang/String;"⟩ : MethodName)) hown (hw _ (List.mem_of_getElem? (i := 1) rfl)) (hw _ (List.mem_of_getElem? (i := 2) rfl)) (hw _ (List.mem_of_getElem? (i := 3) rfl)) (hw _ (List.mem_of_getElem? (i := 4) rfl)) (by decide) (W := 0) (argsL := [(.int (Int32.ofNat nn))]) (rest := []) (rm1 l Z a0 hw [] (Int32.ofNat nn) G1 oF nn h0 n0 Z0 O2 P3 OL O4 hn0 HC1 HC2 hcw rfl hnn) (by decide) (by decide) (by decide) (by decide) e0 (g := (mkF m 7 #[.val (.int p1), .val (.int (Int32.ofNat nn)), .unset, .unset, .unset, .unset, .unset] [(.int (Int32.ofNat nn))])) rfl (by rw [hml]; rfl) (lenOf pd_0_0 rfl) rfl (by show 2 * 0 + _ ≤ _; exact Nat.le_of_eq rfl) (hb hby at_7)
  obtain ⟨o1, b1, rfl, NQ1, KQ1, hE1, hV1, hC1, hA1⟩ := Q1
  refine GoesW.step st1 ?_
  have z_1 : n0 ≤ h1.size := Nat.le_trans Z0 KQ1.1
  have K_1 : Keep h0 h1 [] := Keep.trans K0 KQ1 all0
  have N_1 := Fr.app N0 NQ1
  have hk_1 := Nat.le_of_eq (congrArg Array.size e1)
  show GoesW p e below s _ _ _ T1 (mkF m 10 #[.val (.int p1), .val (.int (Int32.ofNat nn)), .unset, .unset, .unset, .unset, .unset] [(.ref o1)])
  refine GoesW.step (fun _ k => XS.astoreN X1.here hx rfl (hb hby at_10) rfl rfl (l' := #[.val (.int p1), .val (.int (Int32.ofNat nn)), .val (.ref o1), .unset, .unset, .unset, .unset]) rfl k) ?_
  show GoesW p e below s _ _ _ T1 (mkF m 11 #[.val (.int p1), .val (.int (Int32.ofNat nn)), .val (.ref o1), .unset, .unset, .unset, .unset] [])
  refine GoesW.step (fun _ k => XS.aloadN X1.here hx rfl (hb hby at_11) rfl rfl k) ?_
  show GoesW p e below s _ _ _ T1 (mkF m 12 #[.val (.int p1), .val (.int (Int32.ofNat nn)), .val (.ref o1), .unset, .unset, .unset, .unset] [(.ref o1)])
  refine GoesW.step (fun _ k => XS.ifnullNo X1.here hx rfl (hb hby at_12) rfl k) ?_
  show GoesW p e below s _ _ _ T1 (mkF m 15 #[.val (.int p1), .val (.int (Int32.ofNat nn)), .val (.ref o1), .unset, .unset, .unset, .unset] [])
  refine GoesW.step (fun _ k => XS.aloadN X1.here hx rfl (hb hby at_15) rfl rfl k) ?_
  show GoesW p e below s _ _ _ T1 (mkF m 16 #[.val (.int p1), .val (.int (Int32.ofNat nn)), .val (.ref o1), .unset, .unset, .unset, .unset] [(.ref o1)])
  obtain ⟨T2, X2, e2, st2⟩ := own_pure (r := some (.int (Int32.ofNat 6))) (fun _ _ _ q => q) (callXV X1 hx hZ (C := "java/lang/String") (b := o1) (y := (⟨"java/lang/String", "length", "()I"⟩ : MethodName)) (z := (⟨"java/lang/String", "length", "()I"⟩ : MethodName)) hown (hw _ (List.mem_of_getElem? (i := 164) rfl)) (hw _ (List.mem_of_getElem? (i := 44) rfl)) (hw _ (List.mem_of_getElem? (i := 46) rfl)) (hw _ (List.mem_of_getElem? (i := 45) rfl)) (hw _ (List.mem_of_getElem? (i := 47) rfl)) (hw _ (List.mem_of_getElem? (i := 21) rfl)) (notFace_of_selects (args := #[]) (mvT hZ (hw _ (List.mem_of_getElem? (i := 46) rfl)))) (by decide) (W := 0) (argsL := []) (rest := []) (rm7 l Z a0 hw [] o1 G1 b1 6 (own_esc nn) h1 n0 z_1 O2 P3 (OL.keep K_1 all0) hE1 hV1 hC1 hA1) (by decide) (by decide) (by decide) (by decide) e1 hE1 (g := (mkF m 16 #[.val (.int p1), .val (.int (Int32.ofNat nn)), .val (.ref o1), .unset, .unset, .unset, .unset] [(.ref o1)])) rfl (by rw [hml]; rfl) (lenOf pd_0_1 rfl) rfl (by show 2 * 0 + _ ≤ _; exact Nat.le_of_eq rfl) (hb hby at_16))
  refine GoesW.step st2 ?_
  show GoesW p e below s _ _ _ T2 (mkF m 19 #[.val (.int p1), .val (.int (Int32.ofNat nn)), .val (.ref o1), .unset, .unset, .unset, .unset] [(.int (Int32.ofNat 6))])
  refine GoesW.step (fun _ k => XS.bipush X2.here hx rfl (hb hby at_19) k) ?_
  show GoesW p e below s _ _ _ T2 (mkF m 21 #[.val (.int p1), .val (.int (Int32.ofNat nn)), .val (.ref o1), .unset, .unset, .unset, .unset] [(.int (6 : Int32)), (.int (Int32.ofNat 6))])
  refine GoesW.step (fun _ k => XS.icmpYes X2.here hx rfl (pc0 := 21) (pc' := 26) rfl (hb hby at_21) rfl (teq (by decide : (Int32.ofNat 6) = (6 : Int32))).1 (by decide) (by decide) k) ?_
  show GoesW p e below s _ _ _ T2 (mkF m 26 #[.val (.int p1), .val (.int (Int32.ofNat nn)), .val (.ref o1), .unset, .unset, .unset, .unset] [])
  refine GoesW.step (fun _ k => XS.aloadN X2.here hx rfl (hb hby at_26) rfl rfl k) ?_
  show GoesW p e below s _ _ _ T2 (mkF m 27 #[.val (.int p1), .val (.int (Int32.ofNat nn)), .val (.ref o1), .unset, .unset, .unset, .unset] [(.ref o1)])
  refine GoesW.step (fun _ k => XS.iconst X2.here hx rfl (hb hby at_27) k) ?_
  show GoesW p e below s _ _ _ T2 (mkF m 28 #[.val (.int p1), .val (.int (Int32.ofNat nn)), .val (.ref o1), .unset, .unset, .unset, .unset] [(.int (0 : Int32)), (.ref o1)])
  obtain ⟨T3, X3, e3, st3⟩ := own_pure (r := some (.int (own_ch ((own_esc nn) 0)))) (fun _ _ _ q => q) (callXV X2 hx hZ (C := "java/lang/String") (b := o1) (y := (⟨"java/lang/String", "charAt", "(I)C"⟩ : MethodName)) (z := (⟨"java/lang/String", "charAt", "(I)C"⟩ : MethodName)) hown (hw _ (List.mem_of_getElem? (i := 165) rfl)) (hw _ (List.mem_of_getElem? (i := 85) rfl)) (hw _ (List.mem_of_getElem? (i := 87) rfl)) (hw _ (List.mem_of_getElem? (i := 86) rfl)) (hw _ (List.mem_of_getElem? (i := 88) rfl)) (hw _ (List.mem_of_getElem? (i := 21) rfl)) (notFace_of_selects (args := #[]) (mvT hZ (hw _ (List.mem_of_getElem? (i := 87) rfl)))) (by decide) (W := 0) (argsL := [(.int (0 : Int32))]) (rest := []) (rm13 l Z a0 hw [] o1 (0 : Int32) G1 oF b1 6 (own_esc nn) 0 h1 n0 z_1 O2 P3 (OL.keep K_1 all0) O4 hE1 hV1 hC1 hA1 rfl (by decide)) (by decide) (by decide) (by decide) (by decide) e2 hE1 (g := (mkF m 28 #[.val (.int p1), .val (.int (Int32.ofNat nn)), .val (.ref o1), .unset, .unset, .unset, .unset] [(.int (0 : Int32)), (.ref o1)])) rfl (by rw [hml]; rfl) (lenOf pd_0_2 rfl) rfl (by show 2 * 0 + _ ≤ _; exact Nat.le_of_eq rfl) (hb hby at_28))
  refine GoesW.step st3 ?_
  show GoesW p e below s _ _ _ T3 (mkF m 31 #[.val (.int p1), .val (.int (Int32.ofNat nn)), .val (.ref o1), .unset, .unset, .unset, .unset] [(.int (own_ch ((own_esc nn) 0)))])
  refine GoesW.step (fun _ k => XS.bipush X3.here hx rfl (hb hby at_31) k) ?_
  show GoesW p e below s _ _ _ T3 (mkF m 33 #[.val (.int p1), .val (.int (Int32.ofNat nn)), .val (.ref o1), .unset, .unset, .unset, .unset] [(.int (92 : Int32)), (.int (own_ch ((own_esc nn) 0)))])
  refine GoesW.step (fun _ k => XS.icmpNo X3.here hx rfl (hb hby at_33) rfl (teq (own_e0 nn)).2 k) ?_
  show GoesW p e below s _ _ _ T3 (mkF m 36 #[.val (.int p1), .val (.int (Int32.ofNat nn)), .val (.ref o1), .unset, .unset, .unset, .unset] [])
  refine GoesW.step (fun _ k => XS.aloadN X3.here hx rfl (hb hby at_36) rfl rfl k) ?_
  show GoesW p e below s _ _ _ T3 (mkF m 37 #[.val (.int p1), .val (.int (Int32.ofNat nn)), .val (.ref o1), .unset, .unset, .unset, .unset] [(.ref o1)])
  refine GoesW.step (fun _ k => XS.iconst X3.here hx rfl (hb hby at_37) k) ?_
  show GoesW p e below s _ _ _ T3 (mkF m 38 #[.val (.int p1), .val (.int (Int32.ofNat nn)), .val (.ref o1), .unset, .unset, .unset, .unset] [(.int (1 : Int32)), (.ref o1)])
  obtain ⟨T4, X4, e4, st4⟩ := own_pure (r := some (.int (own_ch ((own_esc nn) 1)))) (fun _ _ _ q => q) (callXV X3 hx hZ (C := "java/lang/String") (b := o1) (y := (⟨"java/lang/String", "charAt", "(I)C"⟩ : MethodName)) (z := (⟨"java/lang/String", "charAt", "(I)C"⟩ : MethodName)) hown (hw _ (List.mem_of_getElem? (i := 165) rfl)) (hw _ (List.mem_of_getElem? (i := 85) rfl)) (hw _ (List.mem_of_getElem? (i := 87) rfl)) (hw _ (List.mem_of_getElem? (i := 86) rfl)) (hw _ (List.mem_of_getElem? (i := 88) rfl)) (hw _ (List.mem_of_getElem? (i := 21) rfl)) (notFace_of_selects (args := #[]) (mvT hZ (hw _ (List.mem_of_getElem? (i := 87) rfl)))) (by decide) (W := 0) (argsL := [(.int (1 : Int32))]) (rest := []) (rm13 l Z a0 hw [] o1 (1 : Int32) G1 oF b1 6 (own_esc nn) 1 h1 n0 z_1 O2 P3 (OL.keep K_1 all0) O4 hE1 hV1 hC1 hA1 rfl (by decide)) (by decide) (by decide) (by decide) (by decide) e3 hE1 (g := (mkF m 38 #[.val (.int p1), .val (.int (Int32.ofNat nn)), .val (.ref o1), .unset, .unset, .unset, .unset] [(.int (1 : Int32)), (.ref o1)])) rfl (by rw [hml]; rfl) (lenOf pd_0_2 rfl) rfl (by show 2 * 0 + _ ≤ _; exact Nat.le_of_eq rfl) (hb hby at_38))
  refine GoesW.step st4 ?_
  show GoesW p e below s _ _ _ T4 (mkF m 41 #[.val (.int p1), .val (.int (Int32.ofNat nn)), .val (.ref o1), .unset, .unset, .unset, .unset] [(.int (own_ch ((own_esc nn) 1)))])
  refine GoesW.step (fun _ k => XS.bipush X4.here hx rfl (hb hby at_41) k) ?_
  show GoesW p e below s _ _ _ T4 (mkF m 43 #[.val (.int p1), .val (.int (Int32.ofNat nn)), .val (.ref o1), .unset, .unset, .unset, .unset] [(.int (117 : Int32)), (.int (own_ch ((own_esc nn) 1)))])
  refine GoesW.step (fun _ k => XS.icmpYes X4.here hx rfl (pc0 := 43) (pc' := 48) rfl (hb hby at_43) rfl (teq (own_e1 nn)).1 (by decide) (by decide) k) ?_
  show GoesW p e below s _ _ _ T4 (mkF m 48 #[.val (.int p1), .val (.int (Int32.ofNat nn)), .val (.ref o1), .unset, .unset, .unset, .unset] [])
  refine GoesW.step (fun _ k => XS.aloadN X4.here hx rfl (hb hby at_48) rfl rfl k) ?_
  show GoesW p e below s _ _ _ T4 (mkF m 49 #[.val (.int p1), .val (.int (Int32.ofNat nn)), .val (.ref o1), .unset, .unset, .unset, .unset] [(.ref o1)])
  refine GoesW.step (fun _ k => XS.iconst X4.here hx rfl (hb hby at_49) k) ?_
  show GoesW p e below s _ _ _ T4 (mkF m 50 #[.val (.int p1), .val (.int (Int32.ofNat nn)), .val (.ref o1), .unset, .unset, .unset, .unset] [(.int (2 : Int32)), (.ref o1)])
  obtain ⟨T5, X5, e5, st5⟩ := own_pure (r := some (.int (own_ch ((own_esc nn) 2)))) (fun _ _ _ q => q) (callXV X4 hx hZ (C := "java/lang/String") (b := o1) (y := (⟨"java/lang/String", "charAt", "(I)C"⟩ : MethodName)) (z := (⟨"java/lang/String", "charAt", "(I)C"⟩ : MethodName)) hown (hw _ (List.mem_of_getElem? (i := 165) rfl)) (hw _ (List.mem_of_getElem? (i := 85) rfl)) (hw _ (List.mem_of_getElem? (i := 87) rfl)) (hw _ (List.mem_of_getElem? (i := 86) rfl)) (hw _ (List.mem_of_getElem? (i := 88) rfl)) (hw _ (List.mem_of_getElem? (i := 21) rfl)) (notFace_of_selects (args := #[]) (mvT hZ (hw _ (List.mem_of_getElem? (i := 87) rfl)))) (by decide) (W := 0) (argsL := [(.int (2 : Int32))]) (rest := []) (rm13 l Z a0 hw [] o1 (2 : Int32) G1 oF b1 6 (own_esc nn) 2 h1 n0 z_1 O2 P3 (OL.keep K_1 all0) O4 hE1 hV1 hC1 hA1 rfl (by decide)) (by decide) (by decide) (by decide) (by decide) e4 hE1 (g := (mkF m 50 #[.val (.int p1), .val (.int (Int32.ofNat nn)), .val (.ref o1), .unset, .unset, .unset, .unset] [(.int (2 : Int32)), (.ref o1)])) rfl (by rw [hml]; rfl) (lenOf pd_0_2 rfl) rfl (by show 2 * 0 + _ ≤ _; exact Nat.le_of_eq rfl) (hb hby at_50))
  refine GoesW.step st5 ?_
  show GoesW p e below s _ _ _ T5 (mkF m 53 #[.val (.int p1), .val (.int (Int32.ofNat nn)), .val (.ref o1), .unset, .unset, .unset, .unset] [(.int (own_ch ((own_esc nn) 2)))])
  obtain ⟨T6, X6, e6, st6⟩ := callPure X5 hx hZ (y := (⟨"com/example/cartouche/cartouche/ControlCharactersUnicodeEscapePinLaw", "hexVal", "(C)I"⟩ : MethodName)) hown (hw _ (List.mem_of_getElem? (i := 166) rfl)) (hw _ (List.mem_of_getElem? (i := 167) rfl)) (hw _ (List.mem_of_getElem? (i := 168) rfl)) (hw _ (List.mem_of_getElem? (i := 169) rfl)) (by decide) (W := 0) (argsL := [(.int (own_ch ((own_esc nn) 2)))]) (rest := []) (r := (.int (f29 (own_ch ((own_esc nn) 2))))) (fun _ _ _ q => q) (rm29 l Z a0 hw [] (own_ch ((own_esc nn) 2)) h1 ) (by decide) (by decide) (by decide) (by decide) e5 (g := (mkF m 53 #[.val (.int p1), .val (.int (Int32.ofNat nn)), .val (.ref o1), .unset, .unset, .unset, .unset] [(.int (own_ch ((own_esc nn) 2)))])) rfl (by rw [hml]; rfl) (lenOf pd_0_3 rfl) rfl (by show 2 * 0 + _ ≤ _; exact Nat.le_of_eq rfl) (hb hby at_53)
  refine GoesW.step st6 ?_
  show GoesW p e below s _ _ _ T6 (mkF m 56 #[.val (.int p1), .val (.int (Int32.ofNat nn)), .val (.ref o1), .unset, .unset, .unset, .unset] [(.int (f29 (own_ch ((own_esc nn) 2))))])
  rw [own_d2 nn hnn]
  refine GoesW.step (fun _ k => XS.istoreN X6.here hx rfl (hb hby at_56) rfl (l' := #[.val (.int p1), .val (.int (Int32.ofNat nn)), .val (.ref o1), .val (.int (Int32.ofNat (nn / 4096))), .unset, .unset, .unset]) rfl k) ?_
  show GoesW p e below s _ _ _ T6 (mkF m 57 #[.val (.int p1), .val (.int (Int32.ofNat nn)), .val (.ref o1), .val (.int (Int32.ofNat (nn / 4096))), .unset, .unset, .unset] [])
  refine GoesW.step (fun _ k => XS.aloadN X6.here hx rfl (hb hby at_57) rfl rfl k) ?_
  show GoesW p e below s _ _ _ T6 (mkF m 58 #[.val (.int p1), .val (.int (Int32.ofNat nn)), .val (.ref o1), .val (.int (Int32.ofNat (nn / 4096))), .unset, .unset, .unset] [(.ref o1)])
  refine GoesW.step (fun _ k => XS.iconst X6.here hx rfl (hb hby at_58) k) ?_
  show GoesW p e below s _ _ _ T6 (mkF m 59 #[.val (.int p1), .val (.int (Int32.ofNat nn)), .val (.ref o1), .val (.int (Int32.ofNat (nn / 4096))), .unset, .unset, .unset] [(.int (3 : Int32)), (.ref o1)])
  obtain ⟨T7, X7, e7, st7⟩ := own_pure (r := some (.int (own_ch ((own_esc nn) 3)))) (fun _ _ _ q => q) (callXV X6 hx hZ (C := "java/lang/String") (b := o1) (y := (⟨"java/lang/String", "charAt", "(I)C"⟩ : MethodName)) (z := (⟨"java/lang/String", "charAt", "(I)C"⟩ : MethodName)) hown (hw _ (List.mem_of_getElem? (i := 165) rfl)) (hw _ (List.mem_of_getElem? (i := 85) rfl)) (hw _ (List.mem_of_getElem? (i := 87) rfl)) (hw _ (List.mem_of_getElem? (i := 86) rfl)) (hw _ (List.mem_of_getElem? (i := 88) rfl)) (hw _ (List.mem_of_getElem? (i := 21) rfl)) (notFace_of_selects (args := #[]) (mvT hZ (hw _ (List.mem_of_getElem? (i := 87) rfl)))) (by decide) (W := 0) (argsL := [(.int (3 : Int32))]) (rest := []) (rm13 l Z a0 hw [] o1 (3 : Int32) G1 oF b1 6 (own_esc nn) 3 h1 n0 z_1 O2 P3 (OL.keep K_1 all0) O4 hE1 hV1 hC1 hA1 rfl (by decide)) (by decide) (by decide) (by decide) (by decide) e6 hE1 (g := (mkF m 59 #[.val (.int p1), .val (.int (Int32.ofNat nn)), .val (.ref o1), .val (.int (Int32.ofNat (nn / 4096))), .unset, .unset, .unset] [(.int (3 : Int32)), (.ref o1)])) rfl (by rw [hml]; rfl) (lenOf pd_0_2 rfl) rfl (by show 2 * 0 + _ ≤ _; exact Nat.le_of_eq rfl) (hb hby at_59))
  refine GoesW.step st7 ?_
  show GoesW p e below s _ _ _ T7 (mkF m 62 #[.val (.int p1), .val (.int (Int32.ofNat nn)), .val (.ref o1), .val (.int (Int32.ofNat (nn / 4096))), .unset, .unset, .unset] [(.int (own_ch ((own_esc nn) 3)))])
  obtain ⟨T8, X8, e8, st8⟩ := callPure X7 hx hZ (y := (⟨"com/example/cartouche/cartouche/ControlCharactersUnicodeEscapePinLaw", "hexVal", "(C)I"⟩ : MethodName)) hown (hw _ (List.mem_of_getElem? (i := 166) rfl)) (hw _ (List.mem_of_getElem? (i := 167) rfl)) (hw _ (List.mem_of_getElem? (i := 168) rfl)) (hw _ (List.mem_of_getElem? (i := 169) rfl)) (by decide) (W := 0) (argsL := [(.int (own_ch ((own_esc nn) 3)))]) (rest := []) (r := (.int (f29 (own_ch ((own_esc nn) 3))))) (fun _ _ _ q => q) (rm29 l Z a0 hw [] (own_ch ((own_esc nn) 3)) h1 ) (by decide) (by decide) (by decide) (by decide) e7 (g := (mkF m 62 #[.val (.int p1), .val (.int (Int32.ofNat nn)), .val (.ref o1), .val (.int (Int32.ofNat (nn / 4096))), .unset, .unset, .unset] [(.int (own_ch ((own_esc nn) 3)))])) rfl (by rw [hml]; rfl) (lenOf pd_0_3 rfl) rfl (by show 2 * 0 + _ ≤ _; exact Nat.le_of_eq rfl) (hb hby at_62)
  refine GoesW.step st8 ?_
  show GoesW p e below s _ _ _ T8 (mkF m 65 #[.val (.int p1), .val (.int (Int32.ofNat nn)), .val (.ref o1), .val (.int (Int32.ofNat (nn / 4096))), .unset, .unset, .unset] [(.int (f29 (own_ch ((own_esc nn) 3))))])
  rw [own_d3 nn hnn]
  refine GoesW.step (fun _ k => XS.istore X8.here hx rfl (hb hby at_65) rfl (l' := #[.val (.int p1), .val (.int (Int32.ofNat nn)), .val (.ref o1), .val (.int (Int32.ofNat (nn / 4096))), .val (.int (Int32.ofNat (nn / 256 % 16))), .unset, .unset]) rfl k) ?_
  show GoesW p e below s _ _ _ T8 (mkF m 67 #[.val (.int p1), .val (.int (Int32.ofNat nn)), .val (.ref o1), .val (.int (Int32.ofNat (nn / 4096))), .val (.int (Int32.ofNat (nn / 256 % 16))), .unset, .unset] [])
  refine GoesW.step (fun _ k => XS.aloadN X8.here hx rfl (hb hby at_67) rfl rfl k) ?_
  show GoesW p e below s _ _ _ T8 (mkF m 68 #[.val (.int p1), .val (.int (Int32.ofNat nn)), .val (.ref o1), .val (.int (Int32.ofNat (nn / 4096))), .val (.int (Int32.ofNat (nn / 256 % 16))), .unset, .unset] [(.ref o1)])
  refine GoesW.step (fun _ k => XS.iconst X8.here hx rfl (hb hby at_68) k) ?_
  show GoesW p e below s _ _ _ T8 (mkF m 69 #[.val (.int p1), .val (.int (Int32.ofNat nn)), .val (.ref o1), .val (.int (Int32.ofNat (nn / 4096))), .val (.int (Int32.ofNat (nn / 256 % 16))), .unset, .unset] [(.int (4 : Int32)), (.ref o1)])
  obtain ⟨T9, X9, e9, st9⟩ := own_pure (r := some (.int (own_ch ((own_esc nn) 4)))) (fun _ _ _ q => q) (callXV X8 hx hZ (C := "java/lang/String") (b := o1) (y := (⟨"java/lang/String", "charAt", "(I)C"⟩ : MethodName)) (z := (⟨"java/lang/String", "charAt", "(I)C"⟩ : MethodName)) hown (hw _ (List.mem_of_getElem? (i := 165) rfl)) (hw _ (List.mem_of_getElem? (i := 85) rfl)) (hw _ (List.mem_of_getElem? (i := 87) rfl)) (hw _ (List.mem_of_getElem? (i := 86) rfl)) (hw _ (List.mem_of_getElem? (i := 88) rfl)) (hw _ (List.mem_of_getElem? (i := 21) rfl)) (notFace_of_selects (args := #[]) (mvT hZ (hw _ (List.mem_of_getElem? (i := 87) rfl)))) (by decide) (W := 0) (argsL := [(.int (4 : Int32))]) (rest := []) (rm13 l Z a0 hw [] o1 (4 : Int32) G1 oF b1 6 (own_esc nn) 4 h1 n0 z_1 O2 P3 (OL.keep K_1 all0) O4 hE1 hV1 hC1 hA1 rfl (by decide)) (by decide) (by decide) (by decide) (by decide) e8 hE1 (g := (mkF m 69 #[.val (.int p1), .val (.int (Int32.ofNat nn)), .val (.ref o1), .val (.int (Int32.ofNat (nn / 4096))), .val (.int (Int32.ofNat (nn / 256 % 16))), .unset, .unset] [(.int (4 : Int32)), (.ref o1)])) rfl (by rw [hml]; rfl) (lenOf pd_0_2 rfl) rfl (by show 2 * 0 + _ ≤ _; exact Nat.le_of_eq rfl) (hb hby at_69))
  refine GoesW.step st9 ?_
  show GoesW p e below s _ _ _ T9 (mkF m 72 #[.val (.int p1), .val (.int (Int32.ofNat nn)), .val (.ref o1), .val (.int (Int32.ofNat (nn / 4096))), .val (.int (Int32.ofNat (nn / 256 % 16))), .unset, .unset] [(.int (own_ch ((own_esc nn) 4)))])
  obtain ⟨T10, X10, e10, st10⟩ := callPure X9 hx hZ (y := (⟨"com/example/cartouche/cartouche/ControlCharactersUnicodeEscapePinLaw", "hexVal", "(C)I"⟩ : MethodName)) hown (hw _ (List.mem_of_getElem? (i := 166) rfl)) (hw _ (List.mem_of_getElem? (i := 167) rfl)) (hw _ (List.mem_of_getElem? (i := 168) rfl)) (hw _ (List.mem_of_getElem? (i := 169) rfl)) (by decide) (W := 0) (argsL := [(.int (own_ch ((own_esc nn) 4)))]) (rest := []) (r := (.int (f29 (own_ch ((own_esc nn) 4))))) (fun _ _ _ q => q) (rm29 l Z a0 hw [] (own_ch ((own_esc nn) 4)) h1 ) (by decide) (by decide) (by decide) (by decide) e9 (g := (mkF m 72 #[.val (.int p1), .val (.int (Int32.ofNat nn)), .val (.ref o1), .val (.int (Int32.ofNat (nn / 4096))), .val (.int (Int32.ofNat (nn / 256 % 16))), .unset, .unset] [(.int (own_ch ((own_esc nn) 4)))])) rfl (by rw [hml]; rfl) (lenOf pd_0_3 rfl) rfl (by show 2 * 0 + _ ≤ _; exact Nat.le_of_eq rfl) (hb hby at_72)
  refine GoesW.step st10 ?_
  show GoesW p e below s _ _ _ T10 (mkF m 75 #[.val (.int p1), .val (.int (Int32.ofNat nn)), .val (.ref o1), .val (.int (Int32.ofNat (nn / 4096))), .val (.int (Int32.ofNat (nn / 256 % 16))), .unset, .unset] [(.int (f29 (own_ch ((own_esc nn) 4))))])
  rw [own_d4 nn hnn]
  refine GoesW.step (fun _ k => XS.istore X10.here hx rfl (hb hby at_75) rfl (l' := #[.val (.int p1), .val (.int (Int32.ofNat nn)), .val (.ref o1), .val (.int (Int32.ofNat (nn / 4096))), .val (.int (Int32.ofNat (nn / 256 % 16))), .val (.int (Int32.ofNat (nn / 16 % 16))), .unset]) rfl k) ?_
  show GoesW p e below s _ _ _ T10 (mkF m 77 #[.val (.int p1), .val (.int (Int32.ofNat nn)), .val (.ref o1), .val (.int (Int32.ofNat (nn / 4096))), .val (.int (Int32.ofNat (nn / 256 % 16))), .val (.int (Int32.ofNat (nn / 16 % 16))), .unset] [])
  as_aux_lemma =>
    refine GoesW.step (fun _ k => XS.aloadN X10.here hx rfl (hb hby at_77) rfl rfl k) ?_
    show GoesW p e below s _ _ _ T10 (mkF m 78 #[.val (.int p1), .val (.int (Int32.ofNat nn)), .val (.ref o1), .val (.int (Int32.ofNat (nn / 4096))), .val (.int (Int32.ofNat (nn / 256 % 16))), .val (.int (Int32.ofNat (nn / 16 % 16))), .unset] [(.ref o1)])
    refine GoesW.step (fun _ k => XS.iconst X10.here hx rfl (hb hby at_78) k) ?_
    show GoesW p e below s _ _ _ T10 (mkF m 79 #[.val (.int p1), .val (.int (Int32.ofNat nn)), .val (.ref o1), .val (.int (Int32.ofNat (nn / 4096))), .val (.int (Int32.ofNat (nn / 256 % 16))), .val (.int (Int32.ofNat (nn / 16 % 16))), .unset] [(.int (5 : Int32)), (.ref o1)])
    obtain ⟨T11, X11, e11, st11⟩ := own_pure (r := some (.int (own_ch ((own_esc nn) 5)))) (fun _ _ _ q => q) (callXV X10 hx hZ (C := "java/lang/String") (b := o1) (y := (⟨"java/lang/String", "charAt", "(I)C"⟩ : MethodName)) (z := (⟨"java/lang/String", "charAt", "(I)C"⟩ : MethodName)) hown (hw _ (List.mem_of_getElem? (i := 165) rfl)) (hw _ (List.mem_of_getElem? (i := 85) rfl)) (hw _ (List.mem_of_getElem? (i := 87) rfl)) (hw _ (List.mem_of_getElem? (i := 86) rfl)) (hw _ (List.mem_of_getElem? (i := 88) rfl)) (hw _ (List.mem_of_getElem? (i := 21) rfl)) (notFace_of_selects (args := #[]) (mvT hZ (hw _ (List.mem_of_getElem? (i := 87) rfl)))) (by decide) (W := 0) (argsL := [(.int (5 : Int32))]) (rest := []) (rm13 l Z a0 hw [] o1 (5 : Int32) G1 oF b1 6 (own_esc nn) 5 h1 n0 z_1 O2 P3 (OL.keep K_1 all0) O4 hE1 hV1 hC1 hA1 rfl (by decide)) (by decide) (by decide) (by decide) (by decide) e10 hE1 (g := (mkF m 79 #[.val (.int p1), .val (.int (Int32.ofNat nn)), .val (.ref o1), .val (.int (Int32.ofNat (nn / 4096))), .val (.int (Int32.ofNat (nn / 256 % 16))), .val (.int (Int32.ofNat (nn / 16 % 16))), .unset] [(.int (5 : Int32)), (.ref o1)])) rfl (by rw [hml]; rfl) (lenOf pd_0_2 rfl) rfl (by show 2 * 0 + _ ≤ _; exact Nat.le_of_eq rfl) (hb hby at_79))
    refine GoesW.step st11 ?_
    show GoesW p e below s _ _ _ T11 (mkF m 82 #[.val (.int p1), .val (.int (Int32.ofNat nn)), .val (.ref o1), .val (.int (Int32.ofNat (nn / 4096))), .val (.int (Int32.ofNat (nn / 256 % 16))), .val (.int (Int32.ofNat (nn / 16 % 16))), .unset] [(.int (own_ch ((own_esc nn) 5)))])
    obtain ⟨T12, X12, e12, st12⟩ := callPure X11 hx hZ (y := (⟨"com/example/cartouche/cartouche/ControlCharactersUnicodeEscapePinLaw", "hexVal", "(C)I"⟩ : MethodName)) hown (hw _ (List.mem_of_getElem? (i := 166) rfl)) (hw _ (List.mem_of_getElem? (i := 167) rfl)) (hw _ (List.mem_of_getElem? (i := 168) rfl)) (hw _ (List.mem_of_getElem? (i := 169) rfl)) (by decide) (W := 0) (argsL := [(.int (own_ch ((own_esc nn) 5)))]) (rest := []) (r := (.int (f29 (own_ch ((own_esc nn) 5))))) (fun _ _ _ q => q) (rm29 l Z a0 hw [] (own_ch ((own_esc nn) 5)) h1 ) (by decide) (by decide) (by decide) (by decide) e11 (g := (mkF m 82 #[.val (.int p1), .val (.int (Int32.ofNat nn)), .val (.ref o1), .val (.int (Int32.ofNat (nn / 4096))), .val (.int (Int32.ofNat (nn / 256 % 16))), .val (.int (Int32.ofNat (nn / 16 % 16))), .unset] [(.int (own_ch ((own_esc nn) 5)))])) rfl (by rw [hml]; rfl) (lenOf pd_0_3 rfl) rfl (by show 2 * 0 + _ ≤ _; exact Nat.le_of_eq rfl) (hb hby at_82)
    refine GoesW.step st12 ?_
    show GoesW p e below s _ _ _ T12 (mkF m 85 #[.val (.int p1), .val (.int (Int32.ofNat nn)), .val (.ref o1), .val (.int (Int32.ofNat (nn / 4096))), .val (.int (Int32.ofNat (nn / 256 % 16))), .val (.int (Int32.ofNat (nn / 16 % 16))), .unset] [(.int (f29 (own_ch ((own_esc nn) 5))))])
    rw [own_d5 nn hnn]
    refine GoesW.step (fun _ k => XS.istore X12.here hx rfl (hb hby at_85) rfl (l' := #[.val (.int p1), .val (.int (Int32.ofNat nn)), .val (.ref o1), .val (.int (Int32.ofNat (nn / 4096))), .val (.int (Int32.ofNat (nn / 256 % 16))), .val (.int (Int32.ofNat (nn / 16 % 16))), .val (.int (Int32.ofNat (nn % 16)))]) rfl k) ?_
    show GoesW p e below s _ _ _ T12 (mkF m 87 #[.val (.int p1), .val (.int (Int32.ofNat nn)), .val (.ref o1), .val (.int (Int32.ofNat (nn / 4096))), .val (.int (Int32.ofNat (nn / 256 % 16))), .val (.int (Int32.ofNat (nn / 16 % 16))), .val (.int (Int32.ofNat (nn % 16)))] [])
    refine GoesW.step (fun _ k => XS.iloadN X12.here hx rfl (hb hby at_87) rfl k) ?_
    show GoesW p e below s _ _ _ T12 (mkF m 88 #[.val (.int p1), .val (.int (Int32.ofNat nn)), .val (.ref o1), .val (.int (Int32.ofNat (nn / 4096))), .val (.int (Int32.ofNat (nn / 256 % 16))), .val (.int (Int32.ofNat (nn / 16 % 16))), .val (.int (Int32.ofNat (nn % 16)))] [(.int (Int32.ofNat (nn / 4096)))])
    refine GoesW.step (fun _ k => XS.ifNo X12.here hx rfl (hb hby at_88) rfl ((if0 _ _).trans (flt (own_nn (by omega))).1) k) ?_
    show GoesW p e below s _ _ _ T12 (mkF m 91 #[.val (.int p1), .val (.int (Int32.ofNat nn)), .val (.ref o1), .val (.int (Int32.ofNat (nn / 4096))), .val (.int (Int32.ofNat (nn / 256 % 16))), .val (.int (Int32.ofNat (nn / 16 % 16))), .val (.int (Int32.ofNat (nn % 16)))] [])
    refine GoesW.step (fun _ k => XS.iload X12.here hx rfl (hb hby at_91) rfl k) ?_
    show GoesW p e below s _ _ _ T12 (mkF m 93 #[.val (.int p1), .val (.int (Int32.ofNat nn)), .val (.ref o1), .val (.int (Int32.ofNat (nn / 4096))), .val (.int (Int32.ofNat (nn / 256 % 16))), .val (.int (Int32.ofNat (nn / 16 % 16))), .val (.int (Int32.ofNat (nn % 16)))] [(.int (Int32.ofNat (nn / 256 % 16)))])
    refine GoesW.step (fun _ k => XS.ifNo X12.here hx rfl (hb hby at_93) rfl ((if0 _ _).trans (flt (own_nn (by omega))).1) k) ?_
    show GoesW p e below s _ _ _ T12 (mkF m 96 #[.val (.int p1), .val (.int (Int32.ofNat nn)), .val (.ref o1), .val (.int (Int32.ofNat (nn / 4096))), .val (.int (Int32.ofNat (nn / 256 % 16))), .val (.int (Int32.ofNat (nn / 16 % 16))), .val (.int (Int32.ofNat (nn % 16)))] [])
    refine GoesW.step (fun _ k => XS.iload X12.here hx rfl (hb hby at_96) rfl k) ?_
    show GoesW p e below s _ _ _ T12 (mkF m 98 #[.val (.int p1), .val (.int (Int32.ofNat nn)), .val (.ref o1), .val (.int (Int32.ofNat (nn / 4096))), .val (.int (Int32.ofNat (nn / 256 % 16))), .val (.int (Int32.ofNat (nn / 16 % 16))), .val (.int (Int32.ofNat (nn % 16)))] [(.int (Int32.ofNat (nn / 16 % 16)))])
    refine GoesW.step (fun _ k => XS.ifNo X12.here hx rfl (hb hby at_98) rfl ((if0 _ _).trans (flt (own_nn (by omega))).1) k) ?_
    show GoesW p e below s _ _ _ T12 (mkF m 101 #[.val (.int p1), .val (.int (Int32.ofNat nn)), .val (.ref o1), .val (.int (Int32.ofNat (nn / 4096))), .val (.int (Int32.ofNat (nn / 256 % 16))), .val (.int (Int32.ofNat (nn / 16 % 16))), .val (.int (Int32.ofNat (nn % 16)))] [])
    refine GoesW.step (fun _ k => XS.iload X12.here hx rfl (hb hby at_101) rfl k) ?_
    show GoesW p e below s _ _ _ T12 (mkF m 103 #[.val (.int p1), .val (.int (Int32.ofNat nn)), .val (.ref o1), .val (.int (Int32.ofNat (nn / 4096))), .val (.int (Int32.ofNat (nn / 256 % 16))), .val (.int (Int32.ofNat (nn / 16 % 16))), .val (.int (Int32.ofNat (nn % 16)))] [(.int (Int32.ofNat (nn % 16)))])
    refine GoesW.step (fun _ k => XS.ifYes X12.here hx rfl (pc0 := 103) (pc' := 108) rfl (hb hby at_103) rfl ((if0 _ _).trans (flt (own_nn (by omega))).2.1) (by decide) (by decide) k) ?_
    show GoesW p e below s _ _ _ T12 (mkF m 108 #[.val (.int p1), .val (.int (Int32.ofNat nn)), .val (.ref o1), .val (.int (Int32.ofNat (nn / 4096))), .val (.int (Int32.ofNat (nn / 256 % 16))), .val (.int (Int32.ofNat (nn / 16 % 16))), .val (.int (Int32.ofNat (nn % 16)))] [])
    refine GoesW.step (fun _ k => XS.iloadN X12.here hx rfl (hb hby at_108) rfl k) ?_
    show GoesW p e below s _ _ _ T12 (mkF m 109 #[.val (.int p1), .val (.int (Int32.ofNat nn)), .val (.ref o1), .val (.int (Int32.ofNat (nn / 4096))), .val (.int (Int32.ofNat (nn / 256 % 16))), .val (.int (Int32.ofNat (nn / 16 % 16))), .val (.int (Int32.ofNat (nn % 16)))] [(.int (Int32.ofNat (nn / 4096)))])
    refine GoesW.step (fun _ k => XS.sipush X12.here hx rfl (hb hby at_109) k) ?_
    show GoesW p e below s _ _ _ T12 (mkF m 112 #[.val (.int p1), .val (.int (Int32.ofNat nn)), .val (.ref o1), .val (.int (Int32.ofNat (nn / 4096))), .val (.int (Int32.ofNat (nn / 256 % 16))), .val (.int (Int32.ofNat (nn / 16 % 16))), .val (.int (Int32.ofNat (nn % 16)))] [(.int (4096 : Int32)), (.int (Int32.ofNat (nn / 4096)))])
    refine GoesW.step (fun _ k => XS.imul X12.here hx rfl (hb hby at_112) rfl k) ?_
    show GoesW p e below s _ _ _ T12 (mkF m 113 #[.val (.int p1), .val (.int (Int32.ofNat nn)), .val (.ref o1), .val (.int (Int32.ofNat (nn / 4096))), .val (.int (Int32.ofNat (nn / 256 % 16))), .val (.int (Int32.ofNat (nn / 16 % 16))), .val (.int (Int32.ofNat (nn % 16)))] [(.int ((Int32.ofNat (nn / 4096)) * (4096 : Int32)))])
    refine GoesW.step (fun _ k => XS.iload X12.here hx rfl (hb hby at_113) rfl k) ?_
    show GoesW p e below s _ _ _ T12 (mkF m 115 #[.val (.int p1), .val (.int (Int32.ofNat nn)), .val (.ref o1), .val (.int (Int32.ofNat (nn / 4096))), .val (.int (Int32.ofNat (nn / 256 % 16))), .val (.int (Int32.ofNat (nn / 16 % 16))), .val (.int (Int32.ofNat (nn % 16)))] [(.int (Int32.ofNat (nn / 256 % 16))), (.int ((Int32.ofNat (nn / 4096)) * (4096 : Int32)))])
    refine GoesW.step (fun _ k => XS.sipush X12.here hx rfl (hb hby at_115) k) ?_
    show GoesW p e below s _ _ _ T12 (mkF m 118 #[.val (.int p1), .val (.int (Int32.ofNat nn)), .val (.ref o1), .val (.int (Int32.ofNat (nn / 4096))), .val (.int (Int32.ofNat (nn / 256 % 16))), .val (.int (Int32.ofNat (nn / 16 % 16))), .val (.int (Int32.ofNat (nn % 16)))] [(.int (256 : Int32)), (.int (Int32.ofNat (nn / 256 % 16))), (.int ((Int32.ofNat (nn / 4096)) * (4096 : Int32)))])
    refine GoesW.step (fun _ k => XS.imul X12.here hx rfl (hb hby at_118) rfl k) ?_
    show GoesW p e below s _ _ _ T12 (mkF m 119 #[.val (.int p1), .val (.int (Int32.ofNat nn)), .val (.ref o1), .val (.int (Int32.ofNat (nn / 4096))), .val (.int (Int32.ofNat (nn / 256 % 16))), .val (.int (Int32.ofNat (nn / 16 % 16))), .val (.int (Int32.ofNat (nn % 16)))] [(.int ((Int32.ofNat (nn / 256 % 16)) * (256 : Int32))), (.int ((Int32.ofNat (nn / 4096)) * (4096 : Int32)))])
    refine GoesW.step (fun _ k => XS.iadd X12.here hx rfl (hb hby at_119) rfl k) ?_
    show GoesW p e below s _ _ _ T12 (mkF m 120 #[.val (.int p1), .val (.int (Int32.ofNat nn)), .val (.ref o1), .val (.int (Int32.ofNat (nn / 4096))), .val (.int (Int32.ofNat (nn / 256 % 16))), .val (.int (Int32.ofNat (nn / 16 % 16))), .val (.int (Int32.ofNat (nn % 16)))] [(.int (((Int32.ofNat (nn / 4096)) * (4096 : Int32)) + ((Int32.ofNat (nn / 256 % 16)) * (256 : Int32))))])
    refine GoesW.step (fun _ k => XS.iload X12.here hx rfl (hb hby at_120) rfl k) ?_
    show GoesW p e below s _ _ _ T12 (mkF m 122 #[.val (.int p1), .val (.int (Int32.ofNat nn)), .val (.ref o1), .val (.int (Int32.ofNat (nn / 4096))), .val (.int (Int32.ofNat (nn / 256 % 16))), .val (.int (Int32.ofNat (nn / 16 % 16))), .val (.int (Int32.ofNat (nn % 16)))] [(.int (Int32.ofNat (nn / 16 % 16))), (.int (((Int32.ofNat (nn / 4096)) * (4096 : Int32)) + ((Int32.ofNat (nn / 256 % 16)) * (256 : Int32))))])
    refine GoesW.step (fun _ k => XS.bipush X12.here hx rfl (hb hby at_122) k) ?_
    show GoesW p e below s _ _ _ T12 (mkF m 124 #[.val (.int p1), .val (.int (Int32.ofNat nn)), .val (.ref o1), .val (.int (Int32.ofNat (nn / 4096))), .val (.int (Int32.ofNat (nn / 256 % 16))), .val (.int (Int32.ofNat (nn / 16 % 16))), .val (.int (Int32.ofNat (nn % 16)))] [(.int (16 : Int32)), (.int (Int32.ofNat (nn / 16 % 16))), (.int (((Int32.ofNat (nn / 4096)) * (4096 : Int32)) + ((Int32.ofNat (nn / 256 % 16)) * (256 : Int32))))])
    refine GoesW.step (fun _ k => XS.imul X12.here hx rfl (hb hby at_124) rfl k) ?_
    show GoesW p e below s _ _ _ T12 (mkF m 125 #[.val (.int p1), .val (.int (Int32.ofNat nn)), .val (.ref o1), .val (.int (Int32.ofNat (nn / 4096))), .val (.int (Int32.ofNat (nn / 256 % 16))), .val (.int (Int32.ofNat (nn / 16 % 16))), .val (.int (Int32.ofNat (nn % 16)))] [(.int ((Int32.ofNat (nn / 16 % 16)) * (16 : Int32))), (.int (((Int32.ofNat (nn / 4096)) * (4096 : Int32)) + ((Int32.ofNat (nn / 256 % 16)) * (256 : Int32))))])
    refine GoesW.step (fun _ k => XS.iadd X12.here hx rfl (hb hby at_125) rfl k) ?_
    show GoesW p e below s _ _ _ T12 (mkF m 126 #[.val (.int p1), .val (.int (Int32.ofNat nn)), .val (.ref o1), .val (.int (Int32.ofNat (nn / 4096))), .val (.int (Int32.ofNat (nn / 256 % 16))), .val (.int (Int32.ofNat (nn / 16 % 16))), .val (.int (Int32.ofNat (nn % 16)))] [(.int ((((Int32.ofNat (nn / 4096)) * (4096 : Int32)) + ((Int32.ofNat (nn / 256 % 16)) * (256 : Int32))) + ((Int32.ofNat (nn / 16 % 16)) * (16 : Int32))))])
    refine GoesW.step (fun _ k => XS.iload X12.here hx rfl (hb hby at_126) rfl k) ?_
    show GoesW p e below s _ _ _ T12 (mkF m 128 #[.val (.int p1), .val (.int (Int32.ofNat nn)), .val (.ref o1), .val (.int (Int32.ofNat (nn / 4096))), .val (.int (Int32.ofNat (nn / 256 % 16))), .val (.int (Int32.ofNat (nn / 16 % 16))), .val (.int (Int32.ofNat (nn % 16)))] [(.int (Int32.ofNat (nn % 16))), (.int ((((Int32.ofNat (nn / 4096)) * (4096 : Int32)) + ((Int32.ofNat (nn / 256 % 16)) * (256 : Int32))) + ((Int32.ofNat (nn / 16 % 16)) * (16 : Int32))))])
    refine GoesW.step (fun _ k => XS.iadd X12.here hx rfl (hb hby at_128) rfl k) ?_
    show GoesW p e below s _ _ _ T12 (mkF m 129 #[.val (.int p1), .val (.int (Int32.ofNat nn)), .val (.ref o1), .val (.int (Int32.ofNat (nn / 4096))), .val (.int (Int32.ofNat (nn / 256 % 16))), .val (.int (Int32.ofNat (nn / 16 % 16))), .val (.int (Int32.ofNat (nn % 16)))] [(.int (((((Int32.ofNat (nn / 4096)) * (4096 : Int32)) + ((Int32.ofNat (nn / 256 % 16)) * (256 : Int32))) + ((Int32.ofNat (nn / 16 % 16)) * (16 : Int32))) + (Int32.ofNat (nn % 16))))])
    refine GoesW.step (fun _ k => XS.iloadN X12.here hx rfl (hb hby at_129) rfl k) ?_
    show GoesW p e below s _ _ _ T12 (mkF m 130 #[.val (.int p1), .val (.int (Int32.ofNat nn)), .val (.ref o1), .val (.int (Int32.ofNat (nn / 4096))), .val (.int (Int32.ofNat (nn / 256 % 16))), .val (.int (Int32.ofNat (nn / 16 % 16))), .val (.int (Int32.ofNat (nn % 16)))] [(.int (Int32.ofNat nn)), (.int (((((Int32.ofNat (nn / 4096)) * (4096 : Int32)) + ((Int32.ofNat (nn / 256 % 16)) * (256 : Int32))) + ((Int32.ofNat (nn / 16 % 16)) * (16 : Int32))) + (Int32.ofNat (nn % 16))))])
    refine GoesW.step (fun _ k => XS.icmpNo X12.here hx rfl (hb hby at_130) rfl (teq (own_sum rfl hnn)).2 k) ?_
    show GoesW p e below s _ _ _ T12 (mkF m 133 #[.val (.int p1), .val (.int (Int32.ofNat nn)), .val (.ref o1), .val (.int (Int32.ofNat (nn / 4096))), .val (.int (Int32.ofNat (nn / 256 % 16))), .val (.int (Int32.ofNat (nn / 16 % 16))), .val (.int (Int32.ofNat (nn % 16)))] [])
    refine GoesW.step (fun _ k => XS.iconst X12.here hx rfl (hb hby at_133) k) ?_
    show GoesW p e below s _ _ _ T12 (mkF m 134 #[.val (.int p1), .val (.int (Int32.ofNat nn)), .val (.ref o1), .val (.int (Int32.ofNat (nn / 4096))), .val (.int (Int32.ofNat (nn / 256 % 16))), .val (.int (Int32.ofNat (nn / 16 % 16))), .val (.int (Int32.ofNat (nn % 16)))] [(.int (1 : Int32))])
    refine GoesW.step (fun _ k => XS.goto X12.here hx rfl (pc0 := 134) (pc' := 138) rfl (hb hby at_134) (by decide) (by decide) k) ?_
    show GoesW p e below s _ _ _ T12 (mkF m 138 #[.val (.int p1), .val (.int (Int32.ofNat nn)), .val (.ref o1), .val (.int (Int32.ofNat (nn / 4096))), .val (.int (Int32.ofNat (nn / 256 % 16))), .val (.int (Int32.ofNat (nn / 16 % 16))), .val (.int (Int32.ofNat (nn % 16)))] [(.int (1 : Int32))])
    exact GoesW.outN (s := s) (vm₁ := T1.vm) X12 hS1 (by rw [e12]; exact hk_1) hx hlk (t := .boolean) Bd.returns (by simp) (hb hby at_138) ⟨rfl, N_1⟩ (by decide) (by decide)
set_option maxRecDepth 65536 in
set_option maxHeartbeats 40000000 in
theorem comes_1 {Post : Tables → Env → Array Value → State → Outcome → State → Prop} (hpost : ∀ tb e args s v u, (limb_1_1.after args s (.returned v) u = true ∧ limb_1_2.after args s (.returned v) u = true ∧ True) → FramedW s (.returned v) u (Jvm.fieldLocs frame_1_writes args s ++ Jvm.arrayLocs frame_1_arrays args s ++ Jvm.staticLocs frame_1_statics s) 24 2176 → Post tb e args s (.returned v) u) :
    ArmFor flags0 classFile x code maxLocals ret World_1 tables_1 room_1 Calls_1 rest_1 Pre_1 Post := by
  intro l hfl _ _ p e ha hc hk s m args below hf hA hF happ hP
  obtain ⟨hcalls, hrest, hpre⟩ := hP
  obtain ⟨-, -, -, hnamed, -, -, -, hat⟩ := (Spec.applies_iff hf).mp happ
  obtain ⟨hg, hn⟩ := and_e (Cond.before_iff.mp (show (Jvm.Cond.and given_1 narrow_1).before args s = true from hpre))
  obtain ⟨hcnt, g0⟩ := and_e hg
  have i0 := g0
  obtain ⟨w0, rfl⟩ : ∃ w0 : Value, args = #[w0] := by
    have hs : args.size = 1 := by simpa [Cond.value, given_1] using hcnt
    obtain ⟨L⟩ := args
    match L, hs with
    | [w0], _ => exact ⟨w0, rfl⟩
  have hw := fun d (hd : d ∈ tables_1) => atoms_spec (ws := Jvm.Cond.code x code maxLocals ret :: tables_1) hat d (List.mem_cons_of_mem _ hd)
  obtain ⟨z0, e0⟩ := is_v i0
  obtain rfl : w0 = (.int z0) := Option.some.inj e0
  obtain ⟨hsets, hown0⟩ := atoms_of _ (rest_1_c_eq ▸ (show rest_1_c.before _ s = true from hrest))
  have n5 := not_v (Cond.before_iff.mp (hsets _ (List.mem_of_getElem? (i := 2) rfl)))
  obtain ⟨i11, e10⟩ := is_v (Cond.before_iff.mp (hsets _ (List.mem_of_getElem? (i := 1) rfl)))
  have S12 : Sta s s.heap "java/lang/String" "COMPACT_STRINGS" "Z" (.int i11) := Sta.start e10 (Or.inl (hsets _ (List.mem_of_getElem? (i := 0) rfl)))
  have c17 : ¬ (i11 = (0 : Int32)) := gotF (Cond.eq_ints e10 (Term.int_eval (0))) n5
  obtain ⟨o13, e13⟩ : ∃ oF : Option Addr, (Term.static "jdk/internal/util/Preconditions" "SIOOBE_FORMATTER" "Ljava/util/function/BiFunction;").eval _ s none [] s = some (ov oF) := own_isref (Cond.before_iff.mp (hsets _ (List.mem_of_getElem? (i := 8) rfl)))
  have S14 : Sta s s.heap "jdk/internal/util/Preconditions" "SIOOBE_FORMATTER" "Ljava/util/function/BiFunction;" (ov o13) := Sta.start e13 (Or.inl (hsets _ (List.mem_of_getElem? (i := 7) rfl)))
  have hc1 : Jvm.Lit.constHeld s "com/example/cartouche/cartouche/ControlCharacters" 50 := hcalls.1 _ (List.mem_of_getElem? (i := 0) rfl)
  have hc2 : Jvm.Lit.constHeld s "com/example/cartouche/cartouche/ControlCharacters" 52 := hcalls.1 _ (List.mem_of_getElem? (i := 1) rfl)
  have hcw := hsets _ (List.mem_of_getElem? (i := 2) rfl)
  obtain ⟨n, o, h1, h2, h3, v, L, rfl, ⟨rfl, N⟩, hq⟩ := rm0 l s _ hw tables_1 z0 i11 o13 s.heap s.heap.size (Nat.le_refl _) S12 c17 (Old.start s) S14 rfl hc1 hc2 hcw p e ha hc hk s m _ below hf ((Spec.applies_iff_loose hf).mp happ).1 ⟨rfl, State.Warmed39.refl s, rfl, rfl⟩ trivial
  refine ⟨n, _, h1, h2, h3, hpost _ _ _ _ _ _ ⟨Cond.after_iff.mpr rfl, Cond.after_iff.mpr (eq_i res_at (Term.int_eval (1)) rfl), trivial⟩ ⟨hq.1, hq.2.1, hq.2.2.1, (hq.2.2.2.sift fun y hy => Or.inr (N y hy)).mono (by decide) (by decide)⟩⟩
theorem main_1_1 : Claimed_1_1 := comes_1 fun _ _ _ _ _ _ h hF => ⟨h.1, hF⟩
theorem main_1_2 : Claimed_1_2 := comes_1 fun _ _ _ _ _ _ h hF => ⟨h.2.1, hF⟩
end Jvm.Pilot.@@N@@
namespace Jvm.Pilot.@@N@@
open Jvm Jvm.ClassFile Sem Op Lib Jvm.Free Jvm.Stand Jvm.Pilot.@@N@@.Jvm.D
/-! MADE BY PROGRAM (witnessworld.py) out of the Statement's table words and the real class files: 20 classes; the members and pool entries that the words name. The judged class is class 1, her method 2. -/
namespace start1
open Jvm.ClassFile
def u (s : String) : CpInfo := .utf8 (stringToUtf16 s)
/-- a pool by its gaps: so many unusable entries, then the entry; so many at the end -/
def gap : Nat → List CpInfo → List CpInfo
  | 0, r => r
  | n + 1, r => .unusable :: gap n r
def poolList (es : List (Nat × CpInfo)) (last : Nat) : List CpInfo := es.foldr (fun e r => gap e.1 (e.2 :: r)) (gap last [])
def pool (es : List (Nat × CpInfo)) (last : Nat) : Array CpInfo := ⟨poolList es last⟩
def fileOf (pool : Array CpInfo) (this : Nat) (attrs : Array Attribute := #[]) (ms : Array MethodInfo := #[]) (fl : Nat := 33) (sup : Nat := 0) (ifs : Array Nat := #[]) (fds : Array FieldInfo := #[]) : ClassFile where
  minorVersion := 0
  majorVersion := 65
  constantPool := pool
  accessFlags := fl
  thisClass := this
  superClass := sup
  interfaces := ifs
  fields := fds
  methods := ms
  attributes := attrs
def plain (name : String) (sup : Option ClassId) : Class where
  name := name
  kind := .ordinary
  loader := none
  accessFlags := 33
  super := sup
  interfaces := #[]
  cf := none
  fields := #[]
  methods := #[]
  instanceTypes := #[]
  staticTypes := #[]
  resolved := #[]
  callSites := []
  init := .initialized
  statics := none
  mirror := none

def pool0 : Array CpInfo := pool [(5, u "<init>"), (0, u "()V"), (1, .class_ 10), (1, u "java/lang/Object"), (85, u "clone"), (0, u "()Ljava/lang/Object;")] 26

def k0c0 : Code := { maxStack := 0, maxLocals := 1, code := object_method_1_code, exceptionTable := #[], attributes := #[] }
def k0m0 : Method := { name := "<init>", desc := "()V", sig := { parameters := [], returnType := none }, accessFlags := 1, code := some k0c0 }
def k0m1 : Method := { name := "clone", desc := "()Ljava/lang/Object;", sig := { parameters := [], returnType := some (.object "java/lang/Object") }, accessFlags := 260, code := none }
/-- java/lang/Object -/
def k0 : Class := { plain "java/lang/Object" none with
  accessFlags := 33
  interfaces := #[]
  cf := some (fileOf pool0 8 #[] #[{ accessFlags := 1, nameIndex := 5, descriptorIndex := 6, attributes := #[] }, { accessFlags := 260, nameIndex := 96, descriptorIndex := 97, attributes := #[] }] 33 0 #[] #[])
  fields := #[]
  methods := #[k0m0, k0m1]
  instanceTypes := #[]
  staticTypes := #[]
  resolved := Array.replicate 124 none
  statics := none }

def pool1 : Array CpInfo := pool [(2, .class_ 4), (1, u "java/lang/Object"), (0, u "<init>"), (0, u "()V"), (0, .integer 65535), (0, .methodref 9 10), (0, .class_ 11), (0, .nameAndType 12 13), (0, u "com/example/cartouche/cartouche/ControlCharacters"), (0, u "unicodeEscape"), (0, u "(C)Ljava/lang/String;"), (0, .methodref 15 16), (0, .class_ 17), (0, .nameAndType 18 19), (0, u "java/lang/String"), (0, u "length"), (0, u "()I"), (0, .methodref 15 21), (0, .nameAndType 22 23), (0, u "charAt"), (0, u "(I)C"), (0, .methodref 25 26), (0, .class_ 27), (0, .nameAndType 28 29), (0, u "com/example/cartouche/cartouche/ControlCharactersUnicodeEscapePinLaw"), (0, u "hexVal"), (0, u "(C)I"), (3, u "law"), (0, u "(I)Z")] 2

def k1m0 : Method := { name := "<init>", desc := "()V", sig := { parameters := [], returnType := none }, accessFlags := 2, code := none }
def k1c1 : Code := { maxStack := 2, maxLocals := 1, code := method_2_code, exceptionTable := #[], attributes := #[] }
def k1m1 : Method := { name := "hexVal", desc := "(C)I", sig := { parameters := [.char], returnType := some .int }, accessFlags := 10, code := some k1c1 }
def k1c2 : Code := { maxStack := 3, maxLocals := 7, code := code, exceptionTable := #[], attributes := #[] }
def k1m2 : Method := { name := "law", desc := "(I)Z", sig := { parameters := [.int], returnType := some .boolean }, accessFlags := 9, code := some k1c2 }
/-- com/example/cartouche/cartouche/ControlCharactersUnicodeEscapePinLaw -/
def k1 : Class := { plain "com/example/cartouche/cartouche/ControlCharactersUnicodeEscapePinLaw" (some 0) with
  accessFlags := 49
  interfaces := #[]
  cf := some (fileOf pool1 25 #[] #[{ accessFlags := 2, nameIndex := 5, descriptorIndex := 6, attributes := #[] }, { accessFlags := 10, nameIndex := 28, descriptorIndex := 29, attributes := #[] }, { accessFlags := 9, nameIndex := 33, descriptorIndex := 34, attributes := #[] }] 49 2 #[] #[])
  fields := #[]
  methods := #[k1m0, k1m1, k1m2]
  instanceTypes := #[]
  staticTypes := #[]
  resolved := Array.replicate 37 none
  statics := none }

def pool2 : Array CpInfo := pool [(2, .class_ 4), (1, u "java/lang/Object"), (0, u "<init>"), (0, u "()V"), (1, .class_ 10), (1, u "com/example/cartouche/cartouche/ControlCharacters"), (2, .class_ 14), (0, u "java/lang/StringBuilder"), (1, .class_ 18), (1, u "java/lang/String"), (2, .methodref 13 22), (0, .nameAndType 5 23), (0, u "(I)V"), (2, u "append"), (1, .methodref 16 29), (0, .nameAndType 30 31), (0, u "charAt"), (0, u "(I)C"), (6, u "unicodeEscape"), (0, u "(C)Ljava/lang/String;"), (0, .methodref 13 41), (0, .nameAndType 26 42), (0, u "(Ljava/lang/String;)Ljava/lang/StringBuilder;"), (0, .methodref 13 44), (0, .nameAndType 26 45), (0, u "(C)Ljava/lang/StringBuilder;"), (0, .methodref 13 47), (0, .nameAndType 48 49), (0, u "toString"), (0, u "()Ljava/lang/String;"), (0, .string 51), (0, u "\\u"), (0, .string 53), (0, u "0123456789abcdef"), (0, u "HEX_DIGITS"), (0, u "Ljava/lang/String;")] 8

def k2m0 : Method := { name := "<init>", desc := "()V", sig := { parameters := [], returnType := none }, accessFlags := 2, code := none }
def k2c1 : Code := { maxStack := 4, maxLocals := 1, code := prog_1_method_3_code, exceptionTable := #[], attributes := #[] }
def k2m1 : Method := { name := "unicodeEscape", desc := "(C)Ljava/lang/String;", sig := { parameters := [.char], returnType := some (.object "java/lang/String") }, accessFlags := 8, code := some k2c1 }
/-- com/example/cartouche/cartouche/ControlCharacters -/
def k2 : Class := { plain "com/example/cartouche/cartouche/ControlCharacters" (some 0) with
  accessFlags := 49
  interfaces := #[]
  cf := some (fileOf pool2 8 #[] #[{ accessFlags := 2, nameIndex := 5, descriptorIndex := 6, attributes := #[] }, { accessFlags := 8, nameIndex := 38, descriptorIndex := 39, attributes := #[] }] 49 2 #[] #[{ accessFlags := 26, nameIndex := 54, descriptorIndex := 55, attributes := #[] }])
  fields := #[{ name := "HEX_DIGITS", type := (.object "java/lang/String"), accessFlags := 26, slot := 0, constantValue := 0 }]
  methods := #[k2m0, k2m1]
  instanceTypes := #[]
  staticTypes := #[(.object "java/lang/String")]
  resolved := Array.replicate 64 none
  statics := none }

def pool3 : Array CpInfo := pool [(1, .class_ 2), (0, u "java/lang/Appendable"), (0, .class_ 4), (0, u "java/lang/Object")] 9

/-- java/lang/Appendable -/
def k3 : Class := { plain "java/lang/Appendable" (some 0) with
  accessFlags := 1537
  interfaces := #[]
  cf := some (fileOf pool3 1 #[] #[] 1537 3 #[] #[])
  fields := #[]
  methods := #[]
  instanceTypes := #[]
  staticTypes := #[]
  resolved := Array.replicate 14 none
  statics := none }

def pool4 : Array CpInfo := pool [(2, .class_ 4), (1, u "java/lang/CharSequence"), (42, .class_ 48), (0, u "java/lang/CharSequence$1CodePointIterator"), (10, .class_ 60), (0, u "java/lang/CharSequence$1CharIterator"), (5, .class_ 67), (0, u "java/lang/Object")] 63

/-- java/lang/CharSequence -/
def k4 : Class := { plain "java/lang/CharSequence" (some 0) with
  accessFlags := 1537
  interfaces := #[]
  cf := some (fileOf pool4 2 #[.nestMembers #[47, 59]] #[] 1537 66 #[] #[])
  fields := #[]
  methods := #[]
  instanceTypes := #[]
  staticTypes := #[]
  resolved := Array.replicate 131 none
  statics := none }

def pool5 : Array CpInfo := pool [(1, .class_ 2), (0, u "java/lang/String"), (0, .methodref 4 5), (0, .class_ 6), (0, .nameAndType 7 8), (0, u "java/lang/Object"), (0, u "<init>"), (0, u "()V"), (1, .class_ 12), (1, u "java/lang/AbstractStringBuilder"), (0, u "EMPTYVALUE"), (0, u "[B"), (0, .fieldref 10 16), (0, .nameAndType 17 14), (0, u "value"), (0, .fieldref 1 19), (0, .nameAndType 20 21), (0, u "COMPACT_STRINGS"), (0, u "Z"), (0, .fieldref 10 23), (0, .nameAndType 24 25), (0, u "coder"), (0, u "B"), (6, .methodref 1 33), (0, .nameAndType 34 35), (0, u "length"), (0, u "()I"), (4, .methodref 1 41), (0, .nameAndType 24 42), (0, u "()B"), (2, u "append"), (0, u "(Ljava/lang/String;)Ljava/lang/AbstractStringBuilder;"), (1, .class_ 49), (0, u "java/lang/CharSequence"), (19, u "(Ljava/lang/String;)V"), (5, u "maybeLatin1"), (3, .fieldref 10 80), (0, .nameAndType 81 82), (0, u "count"), (0, u "I"), (0, .methodref 10 84), (0, .nameAndType 85 86), (0, u "isLatin1"), (0, u "()Z"), (1, .class_ 90), (1, u "java/lang/StringLatin1"), (9, .methodref 10 101), (0, .nameAndType 102 103), (0, u "ensureCapacityInternal"), (0, u "(I)V"), (87, .methodref 88 192), (0, .nameAndType 193 194), (0, u "canEncode"), (0, u "(C)Z"), (13, .methodref 10 209), (0, .nameAndType 210 211), (0, u "putStringAt"), (0, u "(ILjava/lang/String;)V"), (5, u "inflateIfNeededFor"), (2, .nameAndType 221 222), (0, u "getBytes"), (0, u "([BIB)V"), (69, u "(C)Ljava/lang/AbstractStringBuilder;"), (104, .methodref 10 398), (0, .nameAndType 217 69), (0, .methodref 1 220), (3, u "()[B"), (40, .class_ 445), (0, u "java/lang/Appendable"), (106, u "getValue")] 56

def k5m0 : Method := { name := "<init>", desc := "()V", sig := { parameters := [], returnType := none }, accessFlags := 0, code := none }
def k5c1 : Code := { maxStack := 2, maxLocals := 2, code := jdk_68_method_2_code, exceptionTable := #[], attributes := #[] }
def k5m1 : Method := { name := "<init>", desc := "(I)V", sig := { parameters := [.int], returnType := none }, accessFlags := 0, code := some k5c1 }
def k5c2 : Code := { maxStack := 1, maxLocals := 1, code := jdk_68_method_6_code, exceptionTable := #[], attributes := #[] }
def k5m2 : Method := { name := "length", desc := "()I", sig := { parameters := [], returnType := some .int }, accessFlags := 1, code := some k5c2 }
def k5c3 : Code := { maxStack := 4, maxLocals := 3, code := jdk_68_method_9_code, exceptionTable := #[], attributes := #[] }
def k5m3 : Method := { name := "ensureCapacityInternal", desc := "(I)V", sig := { parameters := [.int], returnType := none }, accessFlags := 2, code := some k5c3 }
def k5c4 : Code := { maxStack := 3, maxLocals := 3, code := jdk_68_method_22_code, exceptionTable := #[], attributes := #[] }
def k5m4 : Method := { name := "append", desc := "(Ljava/lang/String;)Ljava/lang/AbstractStringBuilder;", sig := { parameters := [(.object "java/lang/String")], returnType := some (.object "java/lang/AbstractStringBuilder") }, accessFlags := 1, code := some k5c4 }
def k5c5 : Code := { maxStack := 5, maxLocals := 2, code := jdk_68_method_31_code, exceptionTable := #[], attributes := #[] }
def k5m5 : Method := { name := "append", desc := "(C)Ljava/lang/AbstractStringBuilder;", sig := { parameters := [.char], returnType := some (.object "java/lang/AbstractStringBuilder") }, accessFlags := 1, code := some k5c5 }
def k5c6 : Code := { maxStack := 1, maxLocals := 1, code := jdk_68_method_64_code, exceptionTable := #[], attributes := #[] }
def k5m6 : Method := { name := "getValue", desc := "()[B", sig := { parameters := [], returnType := some (.array .byte) }, accessFlags := 16, code := some k5c6 }
def k5c7 : Code := { maxStack := 1, maxLocals := 1, code := jdk_68_method_68_code, exceptionTable := #[], attributes := #[] }
def k5m7 : Method := { name := "isLatin1", desc := "()Z", sig := { parameters := [], returnType := some .boolean }, accessFlags := 16, code := some k5c7 }
def k5c8 : Code := { maxStack := 2, maxLocals := 2, code := jdk_68_method_71_code, exceptionTable := #[], attributes := #[] }
def k5m8 : Method := { name := "inflateIfNeededFor", desc := "(Ljava/lang/String;)V", sig := { parameters := [(.object "java/lang/String")], returnType := none }, accessFlags := 2, code := some k5c8 }
def k5c9 : Code := { maxStack := 4, maxLocals := 3, code := jdk_68_method_73_code, exceptionTable := #[], attributes := #[] }
def k5m9 : Method := { name := "putStringAt", desc := "(ILjava/lang/String;)V", sig := { parameters := [.int, (.object "java/lang/String")], returnType := none }, accessFlags := 2, code := some k5c9 }
/-- java/lang/AbstractStringBuilder -/
def k5 : Class := { plain "java/lang/AbstractStringBuilder" (some 0) with
  accessFlags := 1056
  interfaces := #[3, 4]
  cf := some (fileOf pool5 10 #[] #[{ accessFlags := 0, nameIndex := 7, descriptorIndex := 8, attributes := #[] }, { accessFlags := 0, nameIndex := 7, descriptorIndex := 103, attributes := #[] }, { accessFlags := 1, nameIndex := 34, descriptorIndex := 35, attributes := #[] }, { accessFlags := 2, nameIndex := 102, descriptorIndex := 103, attributes := #[] }, { accessFlags := 1, nameIndex := 45, descriptorIndex := 46, attributes := #[] }, { accessFlags := 1, nameIndex := 45, descriptorIndex := 292, attributes := #[] }, { accessFlags := 16, nameIndex := 552, descriptorIndex := 403, attributes := #[] }, { accessFlags := 16, nameIndex := 85, descriptorIndex := 86, attributes := #[] }, { accessFlags := 2, nameIndex := 217, descriptorIndex := 69, attributes := #[] }, { accessFlags := 2, nameIndex := 210, descriptorIndex := 211, attributes := #[] }] 1056 4 #[444, 48] #[{ accessFlags := 0, nameIndex := 17, descriptorIndex := 14, attributes := #[] }, { accessFlags := 0, nameIndex := 24, descriptorIndex := 25, attributes := #[] }, { accessFlags := 0, nameIndex := 75, descriptorIndex := 21, attributes := #[] }, { accessFlags := 0, nameIndex := 81, descriptorIndex := 82, attributes := #[] }, { accessFlags := 26, nameIndex := 13, descriptorIndex := 14, attributes := #[] }])
  fields := #[{ name := "value", type := (.array .byte), accessFlags := 0, slot := 0, constantValue := 0 }, { name := "coder", type := .byte, accessFlags := 0, slot := 1, constantValue := 0 }, { name := "maybeLatin1", type := .boolean, accessFlags := 0, slot := 2, constantValue := 0 }, { name := "count", type := .int, accessFlags := 0, slot := 3, constantValue := 0 }, { name := "EMPTYVALUE", type := (.array .byte), accessFlags := 26, slot := 0, constantValue := 0 }]
  methods := #[k5m0, k5m1, k5m2, k5m3, k5m4, k5m5, k5m6, k5m7, k5m8, k5m9]
  instanceTypes := #[(.array .byte), .byte, .boolean, .int]
  staticTypes := #[(.array .byte)]
  resolved := Array.replicate 609 none
  statics := none }

def pool6 : Array CpInfo := pool [(1, .class_ 2), (0, u "java/io/Serializable"), (0, .class_ 4), (0, u "java/lang/Object")] 2

/-- java/io/Serializable -/
def k6 : Class := { plain "java/io/Serializable" (some 0) with
  accessFlags := 1537
  interfaces := #[]
  cf := some (fileOf pool6 1 #[] #[] 1537 3 #[] #[])
  fields := #[]
  methods := #[]
  instanceTypes := #[]
  staticTypes := #[]
  resolved := Array.replicate 7 none
  statics := none }

def pool7 : Array CpInfo := pool [(1, .class_ 2), (0, u "java/lang/Comparable"), (0, .class_ 4), (0, u "java/lang/Object")] 7

/-- java/lang/Comparable -/
def k7 : Class := { plain "java/lang/Comparable" (some 0) with
  accessFlags := 1537
  interfaces := #[]
  cf := some (fileOf pool7 1 #[] #[] 1537 3 #[] #[])
  fields := #[]
  methods := #[]
  instanceTypes := #[]
  staticTypes := #[]
  resolved := Array.replicate 12 none
  statics := none }

def pool8 : Array CpInfo := pool [(1, .methodref 2 3), (0, .class_ 4), (0, .nameAndType 5 6), (0, u "java/lang/AbstractStringBuilder"), (0, u "<init>"), (0, u "(I)V"), (11, .class_ 20), (1, u "java/lang/String"), (3, .class_ 26), (1, u "java/lang/StringBuilder"), (0, u "append"), (0, u "(Ljava/lang/String;)Ljava/lang/StringBuilder;"), (0, .methodref 2 30), (0, .nameAndType 27 31), (0, u "(Ljava/lang/String;)Ljava/lang/AbstractStringBuilder;"), (18, .methodref 2 51), (0, .nameAndType 27 52), (0, u "(C)Ljava/lang/AbstractStringBuilder;"), (84, .methodref 18 138), (0, .nameAndType 5 139), (0, u "(Ljava/lang/StringBuilder;)V"), (5, u "()V"), (10, u "()I"), (129, u "(C)Ljava/lang/StringBuilder;"), (56, .methodref 2 344), (0, .nameAndType 345 156), (0, u "length"), (3, .class_ 350), (0, u "java/lang/Appendable"), (0, .class_ 352), (0, u "java/io/Serializable"), (0, .class_ 354), (0, u "java/lang/Comparable"), (0, .class_ 356), (0, u "java/lang/CharSequence"), (0, u "serialVersionUID"), (0, u "J"), (40, u "toString"), (0, u "()Ljava/lang/String;")] 21

def k8m0 : Method := { name := "<init>", desc := "()V", sig := { parameters := [], returnType := none }, accessFlags := 1, code := none }
def k8c1 : Code := { maxStack := 2, maxLocals := 2, code := jdk_67_method_2_code, exceptionTable := #[], attributes := #[] }
def k8m1 : Method := { name := "<init>", desc := "(I)V", sig := { parameters := [.int], returnType := none }, accessFlags := 1, code := some k8c1 }
def k8c2 : Code := { maxStack := 2, maxLocals := 2, code := jdk_67_method_7_code, exceptionTable := #[], attributes := #[] }
def k8m2 : Method := { name := "append", desc := "(Ljava/lang/String;)Ljava/lang/StringBuilder;", sig := { parameters := [(.object "java/lang/String")], returnType := some (.object "java/lang/StringBuilder") }, accessFlags := 1, code := some k8c2 }
def k8c3 : Code := { maxStack := 2, maxLocals := 2, code := jdk_67_method_14_code, exceptionTable := #[], attributes := #[] }
def k8m3 : Method := { name := "append", desc := "(C)Ljava/lang/StringBuilder;", sig := { parameters := [.char], returnType := some (.object "java/lang/StringBuilder") }, accessFlags := 1, code := some k8c3 }
def k8c4 : Code := { maxStack := 3, maxLocals := 1, code := jdk_67_method_42_code, exceptionTable := #[], attributes := #[] }
def k8m4 : Method := { name := "toString", desc := "()Ljava/lang/String;", sig := { parameters := [], returnType := some (.object "java/lang/String") }, accessFlags := 1, code := some k8c4 }
def k8c5 : Code := { maxStack := 1, maxLocals := 1, code := jdk_67_method_93_code, exceptionTable := #[], attributes := #[] }
def k8m5 : Method := { name := "length", desc := "()I", sig := { parameters := [], returnType := some .int }, accessFlags := 4161, code := some k8c5 }
/-- java/lang/StringBuilder -/
def k8 : Class := { plain "java/lang/StringBuilder" (some 5) with
  accessFlags := 49
  interfaces := #[3, 6, 7, 4]
  cf := some (fileOf pool8 24 #[] #[{ accessFlags := 1, nameIndex := 5, descriptorIndex := 145, attributes := #[] }, { accessFlags := 1, nameIndex := 5, descriptorIndex := 6, attributes := #[] }, { accessFlags := 1, nameIndex := 27, descriptorIndex := 28, attributes := #[] }, { accessFlags := 1, nameIndex := 27, descriptorIndex := 286, attributes := #[] }, { accessFlags := 1, nameIndex := 399, descriptorIndex := 400, attributes := #[] }, { accessFlags := 4161, nameIndex := 345, descriptorIndex := 156, attributes := #[] }] 49 2 #[349, 351, 353, 355] #[{ accessFlags := 24, nameIndex := 357, descriptorIndex := 358, attributes := #[] }])
  fields := #[{ name := "serialVersionUID", type := .long, accessFlags := 24, slot := 0, constantValue := 0 }]
  methods := #[k8m0, k8m1, k8m2, k8m3, k8m4, k8m5]
  instanceTypes := #[(.array .byte), .byte, .boolean, .int]
  staticTypes := #[.long]
  resolved := Array.replicate 422 none
  statics := none }

def pool9 : Array CpInfo := pool [(1, .class_ 2), (0, u "java/lang/constant/Constable"), (0, .class_ 4), (0, u "java/lang/Object")] 6

/-- java/lang/constant/Constable -/
def k9 : Class := { plain "java/lang/constant/Constable" (some 0) with
  accessFlags := 1537
  interfaces := #[]
  cf := some (fileOf pool9 1 #[] #[] 1537 3 #[] #[])
  fields := #[]
  methods := #[]
  instanceTypes := #[]
  staticTypes := #[]
  resolved := Array.replicate 11 none
  statics := none }

def pool10 : Array CpInfo := pool [(1, .class_ 2), (0, u "java/lang/constant/ConstantDesc"), (0, .class_ 4), (0, u "java/lang/Object")] 32

/-- java/lang/constant/ConstantDesc -/
def k10 : Class := { plain "java/lang/constant/ConstantDesc" (some 0) with
  accessFlags := 1537
  interfaces := #[]
  cf := some (fileOf pool10 1 #[] #[] 1537 3 #[] #[])
  fields := #[]
  methods := #[]
  instanceTypes := #[]
  staticTypes := #[]
  resolved := Array.replicate 37 none
  statics := none }

def pool11 : Array CpInfo := pool [(1, .methodref 2 3), (0, .class_ 4), (0, .nameAndType 5 6), (0, u "java/lang/Object"), (0, u "<init>"), (0, u "()V"), (2, .fieldref 10 11), (0, .class_ 12), (0, .nameAndType 13 14), (0, u "java/lang/String"), (0, u "value"), (0, u "[B"), (0, .fieldref 10 16), (0, .nameAndType 17 18), (0, u "coder"), (0, u "B"), (2, u "hash"), (0, u "I"), (2, u "hashIsZero"), (0, u "Z"), (11, .fieldref 10 39), (0, .nameAndType 40 26), (0, u "COMPACT_STRINGS"), (13, .methodref 55 56), (0, .class_ 57), (0, .nameAndType 58 59), (0, u "java/util/Arrays"), (0, u "copyOfRange"), (0, u "([BII)[B"), (47, .class_ 109), (1, u "java/lang/StringLatin1"), (32, u "()Z"), (50, .class_ 195), (1, u "java/lang/System"), (16, .methodref 193 213), (0, .nameAndType 214 215), (0, u "arraycopy"), (0, u "(Ljava/lang/Object;ILjava/lang/Object;II)V"), (118, u "()I"), (0, .methodref 10 336), (0, .nameAndType 17 337), (0, u "()B"), (2, u "()[B"), (22, u "([BI)C"), (27, u "(II)V"), (35, u "(I)C"), (61, .methodref 10 490), (0, .nameAndType 5 491), (0, u "(Ljava/lang/AbstractStringBuilder;Ljava/lang/Void;)V"), (0, .methodref 10 493), (0, .nameAndType 494 142), (0, u "isLatin1"), (0, .methodref 107 496), (0, .nameAndType 497 363), (0, u "charAt"), (3, u "checkIndex"), (4, .nameAndType 507 334), (0, u "length"), (24, u "getBytes"), (16, .methodref 550 506), (0, .class_ 551), (0, u "java/lang/AbstractStringBuilder"), (0, .methodref 550 553), (0, .nameAndType 554 340), (0, u "getValue"), (20, .class_ 576), (0, u "java/lang/CharSequence"), (22, u "CASE_INSENSITIVE_ORDER"), (0, u "Ljava/util/Comparator;"), (220, u "([BIB)V"), (225, .methodref 550 493), (5, .fieldref 1054 1055), (0, .class_ 1056), (0, .nameAndType 1057 1058), (0, u "jdk/internal/util/Preconditions"), (0, u "SIOOBE_FORMATTER"), (0, u "Ljava/util/function/BiFunction;"), (0, .methodref 1054 1060), (0, .nameAndType 501 1061), (0, u "(IILjava/util/function/BiFunction;)I"), (39, u "serialPersistentFields"), (0, u "[Ljava/io/ObjectStreamField;"), (0, .class_ 1104), (0, u "java/lang/String$CaseInsensitiveComparator"), (1, .class_ 1107), (0, u "java/io/Serializable"), (0, .class_ 1109), (0, u "java/lang/Comparable"), (0, .class_ 1111), (0, u "java/lang/constant/Constable"), (0, .class_ 1113), (0, u "java/lang/constant/ConstantDesc"), (2, u "serialVersionUID"), (0, u "J"), (3, u "REPL"), (0, u "C"), (2, u "LATIN1"), (1, u "UTF16"), (105, u "(Ljava/lang/StringBuilder;)V")] 217

def k11m0 : Method := { name := "<init>", desc := "()V", sig := { parameters := [], returnType := none }, accessFlags := 1, code := none }
def k11c1 : Code := { maxStack := 3, maxLocals := 2, code := jdk_42_method_53_code, exceptionTable := #[], attributes := #[] }
def k11m1 : Method := { name := "<init>", desc := "(Ljava/lang/StringBuilder;)V", sig := { parameters := [(.object "java/lang/StringBuilder")], returnType := none }, accessFlags := 1, code := some k11c1 }
def k11c2 : Code := { maxStack := 2, maxLocals := 1, code := jdk_42_method_54_code, exceptionTable := #[], attributes := #[] }
def k11m2 : Method := { name := "length", desc := "()I", sig := { parameters := [], returnType := some .int }, accessFlags := 1, code := some k11c2 }
def k11c3 : Code := { maxStack := 2, maxLocals := 2, code := jdk_42_method_56_code, exceptionTable := #[], attributes := #[] }
def k11m3 : Method := { name := "charAt", desc := "(I)C", sig := { parameters := [.int], returnType := some .char }, accessFlags := 1, code := some k11c3 }
def k11c4 : Code := { maxStack := 5, maxLocals := 4, code := jdk_42_method_147_code, exceptionTable := #[], attributes := #[] }
def k11m4 : Method := { name := "getBytes", desc := "([BIB)V", sig := { parameters := [(.array .byte), .int, .byte], returnType := none }, accessFlags := 0, code := some k11c4 }
def k11c5 : Code := { maxStack := 5, maxLocals := 5, code := jdk_42_method_150_code, exceptionTable := #[], attributes := #[] }
def k11m5 : Method := { name := "<init>", desc := "(Ljava/lang/AbstractStringBuilder;Ljava/lang/Void;)V", sig := { parameters := [(.object "java/lang/AbstractStringBuilder"), (.object "java/lang/Void")], returnType := none }, accessFlags := 0, code := some k11c5 }
def k11c6 : Code := { maxStack := 1, maxLocals := 1, code := jdk_42_method_152_code, exceptionTable := #[], attributes := #[] }
def k11m6 : Method := { name := "coder", desc := "()B", sig := { parameters := [], returnType := some .byte }, accessFlags := 0, code := some k11c6 }
def k11c7 : Code := { maxStack := 1, maxLocals := 1, code := jdk_42_method_154_code, exceptionTable := #[], attributes := #[] }
def k11m7 : Method := { name := "isLatin1", desc := "()Z", sig := { parameters := [], returnType := some .boolean }, accessFlags := 0, code := some k11c7 }
def k11c8 : Code := { maxStack := 3, maxLocals := 2, code := jdk_42_method_155_code, exceptionTable := #[], attributes := #[] }
def k11m8 : Method := { name := "checkIndex", desc := "(II)V", sig := { parameters := [.int, .int], returnType := none }, accessFlags := 8, code := some k11c8 }
/-- java/lang/String -/
def k11 : Class := { plain "java/lang/String" (some 0) with
  accessFlags := 49
  interfaces := #[6, 7, 4, 9, 10]
  cf := some (fileOf pool11 10 #[.nestMembers #[1103]] #[{ accessFlags := 1, nameIndex := 5, descriptorIndex := 6, attributes := #[] }, { accessFlags := 1, nameIndex := 5, descriptorIndex := 1233, attributes := #[] }, { accessFlags := 1, nameIndex := 507, descriptorIndex := 334, attributes := #[] }, { accessFlags := 1, nameIndex := 497, descriptorIndex := 427, attributes := #[] }, { accessFlags := 0, nameIndex := 532, descriptorIndex := 821, attributes := #[] }, { accessFlags := 0, nameIndex := 5, descriptorIndex := 491, attributes := #[] }, { accessFlags := 0, nameIndex := 17, descriptorIndex := 337, attributes := #[] }, { accessFlags := 0, nameIndex := 494, descriptorIndex := 142, attributes := #[] }, { accessFlags := 8, nameIndex := 501, descriptorIndex := 391, attributes := #[] }] 49 2 #[1106, 1108, 575, 1110, 1112] #[{ accessFlags := 18, nameIndex := 13, descriptorIndex := 14, attributes := #[] }, { accessFlags := 18, nameIndex := 17, descriptorIndex := 18, attributes := #[] }, { accessFlags := 2, nameIndex := 21, descriptorIndex := 22, attributes := #[] }, { accessFlags := 2, nameIndex := 25, descriptorIndex := 26, attributes := #[] }, { accessFlags := 26, nameIndex := 1116, descriptorIndex := 1117, attributes := #[] }, { accessFlags := 24, nameIndex := 40, descriptorIndex := 26, attributes := #[] }, { accessFlags := 26, nameIndex := 1101, descriptorIndex := 1102, attributes := #[] }, { accessFlags := 26, nameIndex := 1121, descriptorIndex := 1122, attributes := #[] }, { accessFlags := 25, nameIndex := 599, descriptorIndex := 600, attributes := #[] }, { accessFlags := 24, nameIndex := 1125, descriptorIndex := 18, attributes := #[] }, { accessFlags := 24, nameIndex := 1127, descriptorIndex := 18, attributes := #[] }])
  fields := #[{ name := "value", type := (.array .byte), accessFlags := 18, slot := 0, constantValue := 0 }, { name := "coder", type := .byte, accessFlags := 18, slot := 1, constantValue := 0 }, { name := "hash", type := .int, accessFlags := 2, slot := 2, constantValue := 0 }, { name := "hashIsZero", type := .boolean, accessFlags := 2, slot := 3, constantValue := 0 }, { name := "serialVersionUID", type := .long, accessFlags := 26, slot := 0, constantValue := 0 }, { name := "COMPACT_STRINGS", type := .boolean, accessFlags := 24, slot := 1, constantValue := 0 }, { name := "serialPersistentFields", type := (.array (.object "java/io/ObjectStreamField")), accessFlags := 26, slot := 2, constantValue := 0 }, { name := "REPL", type := .char, accessFlags := 26, slot := 3, constantValue := 0 }, { name := "CASE_INSENSITIVE_ORDER", type := (.object "java/util/Comparator"), accessFlags := 25, slot := 4, constantValue := 0 }, { name := "LATIN1", type := .byte, accessFlags := 24, slot := 5, constantValue := 0 }, { name := "UTF16", type := .byte, accessFlags := 24, slot := 6, constantValue := 0 }]
  methods := #[k11m0, k11m1, k11m2, k11m3, k11m4, k11m5, k11m6, k11m7, k11m8]
  instanceTypes := #[(.array .byte), .byte, .int, .boolean]
  staticTypes := #[.long, .boolean, (.array (.object "java/io/ObjectStreamField")), .char, (.object "java/util/Comparator"), .byte, .byte]
  resolved := Array.replicate 1451 none
  statics := some 0 }

def pool12 : Array CpInfo := pool [(2, .class_ 4), (1, u "java/lang/Object"), (0, u "<init>"), (0, u "()V"), (1, .class_ 10), (1, u "java/lang/System"), (0, u "allowSecurityManager"), (0, u "I"), (16, u "cons"), (0, u "Ljava/io/Console;"), (77, .class_ 110), (1, u "java/lang/System$CallersHolder"), (43, u "initialErrStream"), (0, u "Ljava/io/PrintStream;"), (19, u "security"), (0, u "Ljava/lang/SecurityManager;"), (31, .class_ 209), (0, u "java/lang/System$1"), (7, u "props"), (0, u "Ljava/util/Properties;"), (2, u "lineSeparator"), (0, u "Ljava/lang/String;"), (96, .class_ 321), (1, u "java/lang/System$LoggerFinder"), (5, .class_ 328), (0, u "java/lang/System$Logger"), (67, u "err"), (2, u "out"), (91, u "notSupportedJnuEncoding"), (15, u "in"), (17, u "initialIn"), (0, u "Ljava/io/InputStream;"), (35, u "bootLayer"), (0, u "Ljava/lang/ModuleLayer;"), (99, .class_ 664), (0, u "java/lang/System$2"), (9, u "NEVER"), (2, u "MAYBE"), (49, u "arraycopy"), (0, u "(Ljava/lang/Object;ILjava/lang/Object;II)V"), (72, .class_ 802), (0, u "java/lang/System$Logger$Level")] 31

def k12m0 : Method := { name := "<init>", desc := "()V", sig := { parameters := [], returnType := none }, accessFlags := 2, code := none }
def k12m1 : Method := { name := "arraycopy", desc := "(Ljava/lang/Object;ILjava/lang/Object;II)V", sig := { parameters := [(.object "java/lang/Object"), .int, (.object "java/lang/Object"), .int, .int], returnType := none }, accessFlags := 265, code := none }
/-- java/lang/System -/
def k12 : Class := { plain "java/lang/System" (some 0) with
  accessFlags := 49
  interfaces := #[]
  cf := some (fileOf pool12 8 #[.nestMembers #[319, 327, 801, 108, 663, 208]] #[{ accessFlags := 2, nameIndex := 5, descriptorIndex := 6, attributes := #[] }, { accessFlags := 265, nameIndex := 727, descriptorIndex := 728, attributes := #[] }] 49 2 #[] #[{ accessFlags := 25, nameIndex := 507, descriptorIndex := 526, attributes := #[] }, { accessFlags := 25, nameIndex := 399, descriptorIndex := 155, attributes := #[] }, { accessFlags := 25, nameIndex := 396, descriptorIndex := 155, attributes := #[] }, { accessFlags := 10, nameIndex := 525, descriptorIndex := 526, attributes := #[] }, { accessFlags := 26, nameIndex := 674, descriptorIndex := 12, attributes := #[] }, { accessFlags := 26, nameIndex := 677, descriptorIndex := 12, attributes := #[] }, { accessFlags := 10, nameIndex := 11, descriptorIndex := 12, attributes := #[] }, { accessFlags := 74, nameIndex := 175, descriptorIndex := 176, attributes := #[] }, { accessFlags := 10, nameIndex := 491, descriptorIndex := 222, attributes := #[] }, { accessFlags := 74, nameIndex := 29, descriptorIndex := 30, attributes := #[] }, { accessFlags := 74, nameIndex := 154, descriptorIndex := 155, attributes := #[] }, { accessFlags := 10, nameIndex := 217, descriptorIndex := 218, attributes := #[] }, { accessFlags := 10, nameIndex := 221, descriptorIndex := 222, attributes := #[] }, { accessFlags := 8, nameIndex := 562, descriptorIndex := 563, attributes := #[] }])
  fields := #[{ name := "in", type := (.object "java/io/InputStream"), accessFlags := 25, slot := 0, constantValue := 0 }, { name := "out", type := (.object "java/io/PrintStream"), accessFlags := 25, slot := 1, constantValue := 0 }, { name := "err", type := (.object "java/io/PrintStream"), accessFlags := 25, slot := 2, constantValue := 0 }, { name := "initialIn", type := (.object "java/io/InputStream"), accessFlags := 10, slot := 3, constantValue := 0 }, { name := "NEVER", type := .int, accessFlags := 26, slot := 4, constantValue := 0 }, { name := "MAYBE", type := .int, accessFlags := 26, slot := 5, constantValue := 0 }, { name := "allowSecurityManager", type := .int, accessFlags := 10, slot := 6, constantValue := 0 }, { name := "security", type := (.object "java/lang/SecurityManager"), accessFlags := 74, slot := 7, constantValue := 0 }, { name := "notSupportedJnuEncoding", type := (.object "java/lang/String"), accessFlags := 10, slot := 8, constantValue := 0 }, { name := "cons", type := (.object "java/io/Console"), accessFlags := 74, slot := 9, constantValue := 0 }, { name := "initialErrStream", type := (.object "java/io/PrintStream"), accessFlags := 74, slot := 10, constantValue := 0 }, { name := "props", type := (.object "java/util/Properties"), accessFlags := 10, slot := 11, constantValue := 0 }, { name := "lineSeparator", type := (.object "java/lang/String"), accessFlags := 10, slot := 12, constantValue := 0 }, { name := "bootLayer", type := (.object "java/lang/ModuleLayer"), accessFlags := 8, slot := 13, constantValue := 0 }]
  methods := #[k12m0, k12m1]
  instanceTypes := #[]
  staticTypes := #[(.object "java/io/InputStream"), (.object "java/io/PrintStream"), (.object "java/io/PrintStream"), (.object "java/io/InputStream"), .int, .int, .int, (.object "java/lang/SecurityManager"), (.object "java/lang/String"), (.object "java/io/Console"), (.object "java/io/PrintStream"), (.object "java/util/Properties"), (.object "java/lang/String"), (.object "java/lang/ModuleLayer")]
  resolved := Array.replicate 834 none
  statics := none }

def pool13 : Array CpInfo := pool [(1, .class_ 2), (0, u "java/lang/String"), (1, .class_ 6), (1, u "java/lang/Object"), (0, u "<init>"), (0, u "()V"), (0, .methodref 1 10), (0, .nameAndType 11 12), (0, u "checkIndex"), (0, u "(II)V"), (1, .class_ 16), (1, u "java/lang/StringLatin1"), (36, u "([BI)C"), (36, u "canEncode"), (14, u "(C)Z"), (15, u "$assertionsDisabled"), (0, u "Z"), (98, .class_ 223), (1, u "java/lang/StringLatin1$LinesSpliterator"), (28, u "charAt"), (137, .class_ 391), (0, u "java/lang/StringLatin1$CharsSpliterator")] 3

def k13m0 : Method := { name := "<init>", desc := "()V", sig := { parameters := [], returnType := none }, accessFlags := 0, code := none }
def k13c1 : Code := { maxStack := 2, maxLocals := 2, code := jdk_43_method_2_code, exceptionTable := #[], attributes := #[] }
def k13m1 : Method := { name := "charAt", desc := "([BI)C", sig := { parameters := [(.array .byte), .int], returnType := some .char }, accessFlags := 9, code := some k13c1 }
def k13c2 : Code := { maxStack := 2, maxLocals := 1, code := jdk_43_method_3_code, exceptionTable := #[], attributes := #[] }
def k13m2 : Method := { name := "canEncode", desc := "(C)Z", sig := { parameters := [.char], returnType := some .boolean }, accessFlags := 9, code := some k13c2 }
/-- java/lang/StringLatin1 -/
def k13 : Class := { plain "java/lang/StringLatin1" (some 0) with
  accessFlags := 48
  interfaces := #[]
  cf := some (fileOf pool13 14 #[.nestMembers #[390, 221]] #[{ accessFlags := 0, nameIndex := 7, descriptorIndex := 8, attributes := #[] }, { accessFlags := 9, nameIndex := 252, descriptorIndex := 53, attributes := #[] }, { accessFlags := 9, nameIndex := 90, descriptorIndex := 105, attributes := #[] }] 48 4 #[] #[{ accessFlags := 4120, nameIndex := 121, descriptorIndex := 122, attributes := #[] }])
  fields := #[{ name := "$assertionsDisabled", type := .boolean, accessFlags := 4120, slot := 0, constantValue := 0 }]
  methods := #[k13m0, k13m1, k13m2]
  instanceTypes := #[]
  staticTypes := #[.boolean]
  resolved := Array.replicate 395 none
  statics := none }

def pool14 : Array CpInfo := pool [(2, .class_ 4), (1, u "java/lang/Object"), (0, u "<init>"), (0, u "()V"), (17, .class_ 26), (1, u "jdk/internal/util/Preconditions"), (6, u "checkIndex"), (21, .class_ 56), (0, u "jdk/internal/util/Preconditions$4"), (57, .class_ 115), (0, u "jdk/internal/util/Preconditions$1"), (7, u "SIOOBE_FORMATTER"), (0, u "Ljava/util/function/BiFunction;"), (0, .class_ 126), (0, u "jdk/internal/util/Preconditions$2"), (3, u "AIOOBE_FORMATTER"), (0, .class_ 132), (0, u "jdk/internal/util/Preconditions$3"), (3, u "IOOBE_FORMATTER"), (41, u "(IILjava/util/function/BiFunction;)I")] 15

def k14m0 : Method := { name := "<init>", desc := "()V", sig := { parameters := [], returnType := none }, accessFlags := 1, code := none }
def k14c1 : Code := { maxStack := 3, maxLocals := 3, code := jdk_41_method_11_code, exceptionTable := #[], attributes := #[] }
def k14m1 : Method := { name := "checkIndex", desc := "(IILjava/util/function/BiFunction;)I", sig := { parameters := [.int, .int, (.object "java/util/function/BiFunction")], returnType := some .int }, accessFlags := 9, code := some k14c1 }
/-- jdk/internal/util/Preconditions -/
def k14 : Class := { plain "jdk/internal/util/Preconditions" (some 0) with
  accessFlags := 33
  interfaces := #[]
  cf := some (fileOf pool14 24 #[.nestMembers #[55, 131, 125, 114]] #[{ accessFlags := 1, nameIndex := 5, descriptorIndex := 6, attributes := #[] }, { accessFlags := 9, nameIndex := 33, descriptorIndex := 178, attributes := #[] }] 33 2 #[] #[{ accessFlags := 25, nameIndex := 123, descriptorIndex := 124, attributes := #[] }, { accessFlags := 25, nameIndex := 130, descriptorIndex := 124, attributes := #[] }, { accessFlags := 25, nameIndex := 136, descriptorIndex := 124, attributes := #[] }])
  fields := #[{ name := "SIOOBE_FORMATTER", type := (.object "java/util/function/BiFunction"), accessFlags := 25, slot := 0, constantValue := 0 }, { name := "AIOOBE_FORMATTER", type := (.object "java/util/function/BiFunction"), accessFlags := 25, slot := 1, constantValue := 0 }, { name := "IOOBE_FORMATTER", type := (.object "java/util/function/BiFunction"), accessFlags := 25, slot := 2, constantValue := 0 }]
  methods := #[k14m0, k14m1]
  instanceTypes := #[]
  staticTypes := #[(.object "java/util/function/BiFunction"), (.object "java/util/function/BiFunction"), (.object "java/util/function/BiFunction")]
  resolved := Array.replicate 194 none
  statics := some 1 }

def pool15 : Array CpInfo := pool [(2, .class_ 4), (1, u "java/lang/Object"), (0, u "<init>"), (0, u "()V"), (7, .class_ 16), (1, u "java/util/Arrays"), (57, .class_ 76), (1, u "java/util/Arrays$NaturalOrder"), (32, u "()Ljava/lang/Object;"), (3, .class_ 115), (1, u "java/util/Arrays$LegacyMergeSort"), (1, u "Z"), (10, .nameAndType 129 109), (0, u "clone"), (9, u "copyOfRange"), (170, .methodref 311 128), (0, .class_ 312), (0, u "[B"), (29, u "([BII)[B"), (32, .class_ 376), (0, u "java/util/Arrays$ArrayList"), (68, u "$assertionsDisabled"), (269, u "MIN_ARRAY_SORT_GRAN"), (0, u "I"), (2, u "INSERTIONSORT_THRESHOLD"), (255, .class_ 976), (0, u "java/util/Arrays$ArrayItr")] 52

def k15m0 : Method := { name := "<init>", desc := "()V", sig := { parameters := [], returnType := none }, accessFlags := 2, code := none }
def k15c1 : Code := { maxStack := 3, maxLocals := 3, code := jdk_65_method_132_code, exceptionTable := #[], attributes := #[] }
def k15m1 : Method := { name := "copyOfRange", desc := "([BII)[B", sig := { parameters := [(.array .byte), .int, .int], returnType := some (.array .byte) }, accessFlags := 9, code := some k15c1 }
/-- java/util/Arrays -/
def k15 : Class := { plain "java/util/Arrays" (some 0) with
  accessFlags := 49
  interfaces := #[]
  cf := some (fileOf pool15 14 #[.nestMembers #[975, 375, 113, 74]] #[{ accessFlags := 2, nameIndex := 5, descriptorIndex := 6, attributes := #[] }, { accessFlags := 9, nameIndex := 139, descriptorIndex := 342, attributes := #[] }] 49 2 #[] #[{ accessFlags := 26, nameIndex := 715, descriptorIndex := 716, attributes := #[] }, { accessFlags := 26, nameIndex := 719, descriptorIndex := 716, attributes := #[] }, { accessFlags := 4120, nameIndex := 445, descriptorIndex := 117, attributes := #[] }])
  fields := #[{ name := "MIN_ARRAY_SORT_GRAN", type := .int, accessFlags := 26, slot := 0, constantValue := 0 }, { name := "INSERTIONSORT_THRESHOLD", type := .int, accessFlags := 26, slot := 1, constantValue := 0 }, { name := "$assertionsDisabled", type := .boolean, accessFlags := 4120, slot := 2, constantValue := 0 }]
  methods := #[k15m0, k15m1]
  instanceTypes := #[]
  staticTypes := #[.int, .int, .boolean]
  resolved := Array.replicate 1029 none
  statics := none }

def pool16 : Array CpInfo := pool [(1, .class_ 2), (0, u "java/lang/Cloneable"), (0, .class_ 4), (0, u "java/lang/Object")] 2

/-- java/lang/Cloneable -/
def k16 : Class := { plain "java/lang/Cloneable" (some 0) with
  accessFlags := 1537
  interfaces := #[]
  cf := some (fileOf pool16 1 #[] #[] 1537 3 #[] #[])
  fields := #[]
  methods := #[]
  instanceTypes := #[]
  staticTypes := #[]
  resolved := Array.replicate 7 none
  statics := none }

def pool17 : Array CpInfo := pool [(9, u "<init>"), (6, .class_ 18), (1, u "java/lang/Object"), (0, u "()V"), (1, .class_ 23), (1, u "jdk/internal/util/ArraysSupport"), (0, u "LOG2_ARRAY_LONG_INDEX_SCALE"), (0, u "I"), (2, u "U"), (0, u "Ljdk/internal/misc/Unsafe;"), (8, u "BIG_ENDIAN"), (0, u "Z"), (8, u "LOG2_BYTE_BIT_SIZE"), (4, u "LOG2_ARRAY_INT_INDEX_SCALE"), (54, u "JLA"), (0, u "Ljdk/internal/access/JavaLangAccess;"), (11, u "LOG2_ARRAY_BOOLEAN_INDEX_SCALE"), (9, u "LOG2_ARRAY_BYTE_INDEX_SCALE"), (5, u "LOG2_ARRAY_CHAR_INDEX_SCALE"), (5, u "LOG2_ARRAY_SHORT_INDEX_SCALE"), (18, u "LOG2_ARRAY_FLOAT_INDEX_SCALE"), (24, u "LOG2_ARRAY_DOUBLE_INDEX_SCALE"), (89, u "T_BOOLEAN"), (2, u "T_CHAR"), (1, u "T_FLOAT"), (1, u "T_DOUBLE"), (1, u "T_BYTE"), (1, u "T_SHORT"), (1, u "T_INT"), (1, u "T_LONG"), (1, u "SOFT_MAX_ARRAY_LENGTH")] 83

def k17m0 : Method := { name := "<init>", desc := "()V", sig := { parameters := [], returnType := none }, accessFlags := 2, code := none }
/-- jdk/internal/util/ArraysSupport -/
def k17 : Class := { plain "jdk/internal/util/ArraysSupport" (some 0) with
  accessFlags := 33
  interfaces := #[]
  cf := some (fileOf pool17 21 #[] #[{ accessFlags := 2, nameIndex := 9, descriptorIndex := 19, attributes := #[] }] 33 16 #[] #[{ accessFlags := 24, nameIndex := 28, descriptorIndex := 29, attributes := #[] }, { accessFlags := 26, nameIndex := 38, descriptorIndex := 39, attributes := #[] }, { accessFlags := 25, nameIndex := 121, descriptorIndex := 25, attributes := #[] }, { accessFlags := 25, nameIndex := 131, descriptorIndex := 25, attributes := #[] }, { accessFlags := 25, nameIndex := 137, descriptorIndex := 25, attributes := #[] }, { accessFlags := 25, nameIndex := 143, descriptorIndex := 25, attributes := #[] }, { accessFlags := 25, nameIndex := 53, descriptorIndex := 25, attributes := #[] }, { accessFlags := 25, nameIndex := 24, descriptorIndex := 25, attributes := #[] }, { accessFlags := 25, nameIndex := 162, descriptorIndex := 25, attributes := #[] }, { accessFlags := 25, nameIndex := 187, descriptorIndex := 25, attributes := #[] }, { accessFlags := 26, nameIndex := 48, descriptorIndex := 25, attributes := #[] }, { accessFlags := 25, nameIndex := 277, descriptorIndex := 25, attributes := #[] }, { accessFlags := 25, nameIndex := 280, descriptorIndex := 25, attributes := #[] }, { accessFlags := 25, nameIndex := 282, descriptorIndex := 25, attributes := #[] }, { accessFlags := 25, nameIndex := 284, descriptorIndex := 25, attributes := #[] }, { accessFlags := 25, nameIndex := 286, descriptorIndex := 25, attributes := #[] }, { accessFlags := 25, nameIndex := 288, descriptorIndex := 25, attributes := #[] }, { accessFlags := 25, nameIndex := 290, descriptorIndex := 25, attributes := #[] }, { accessFlags := 25, nameIndex := 292, descriptorIndex := 25, attributes := #[] }, { accessFlags := 26, nameIndex := 108, descriptorIndex := 109, attributes := #[] }, { accessFlags := 25, nameIndex := 294, descriptorIndex := 25, attributes := #[] }])
  fields := #[{ name := "U", type := (.object "jdk/internal/misc/Unsafe"), accessFlags := 24, slot := 0, constantValue := 0 }, { name := "BIG_ENDIAN", type := .boolean, accessFlags := 26, slot := 1, constantValue := 0 }, { name := "LOG2_ARRAY_BOOLEAN_INDEX_SCALE", type := .int, accessFlags := 25, slot := 2, constantValue := 0 }, { name := "LOG2_ARRAY_BYTE_INDEX_SCALE", type := .int, accessFlags := 25, slot := 3, constantValue := 0 }, { name := "LOG2_ARRAY_CHAR_INDEX_SCALE", type := .int, accessFlags := 25, slot := 4, constantValue := 0 }, { name := "LOG2_ARRAY_SHORT_INDEX_SCALE", type := .int, accessFlags := 25, slot := 5, constantValue := 0 }, { name := "LOG2_ARRAY_INT_INDEX_SCALE", type := .int, accessFlags := 25, slot := 6, constantValue := 0 }, { name := "LOG2_ARRAY_LONG_INDEX_SCALE", type := .int, accessFlags := 25, slot := 7, constantValue := 0 }, { name := "LOG2_ARRAY_FLOAT_INDEX_SCALE", type := .int, accessFlags := 25, slot := 8, constantValue := 0 }, { name := "LOG2_ARRAY_DOUBLE_INDEX_SCALE", type := .int, accessFlags := 25, slot := 9, constantValue := 0 }, { name := "LOG2_BYTE_BIT_SIZE", type := .int, accessFlags := 26, slot := 10, constantValue := 0 }, { name := "T_BOOLEAN", type := .int, accessFlags := 25, slot := 11, constantValue := 0 }, { name := "T_CHAR", type := .int, accessFlags := 25, slot := 12, constantValue := 0 }, { name := "T_FLOAT", type := .int, accessFlags := 25, slot := 13, constantValue := 0 }, { name := "T_DOUBLE", type := .int, accessFlags := 25, slot := 14, constantValue := 0 }, { name := "T_BYTE", type := .int, accessFlags := 25, slot := 15, constantValue := 0 }, { name := "T_SHORT", type := .int, accessFlags := 25, slot := 16, constantValue := 0 }, { name := "T_INT", type := .int, accessFlags := 25, slot := 17, constantValue := 0 }, { name := "T_LONG", type := .int, accessFlags := 25, slot := 18, constantValue := 0 }, { name := "JLA", type := (.object "jdk/internal/access/JavaLangAccess"), accessFlags := 26, slot := 19, constantValue := 0 }, { name := "SOFT_MAX_ARRAY_LENGTH", type := .int, accessFlags := 25, slot := 20, constantValue := 0 }]
  methods := #[k17m0]
  instanceTypes := #[]
  staticTypes := #[(.object "jdk/internal/misc/Unsafe"), .boolean, .int, .int, .int, .int, .int, .int, .int, .int, .int, .int, .int, .int, .int, .int, .int, .int, .int, (.object "jdk/internal/access/JavaLangAccess"), .int]
  resolved := Array.replicate 378 none
  statics := none }

/-- the primitive byte -/
def k18 : Class := { plain "byte" none with kind := .primitive 'B', accessFlags := 0x411 }
/-- [B -/
def k19 : Class := { plain "[B" (some 0) with kind := .array 18 .byte, interfaces := #[16, 6], accessFlags := 1041 }

def heap : Heap := #[{ cls := 11, slots := #[.long 0, .int 1, .null, .int 0, .null, .int 0, .int 0], vm := .statics 11 },
  { cls := 14, slots := #[.null, .null, .null], vm := .statics 14 }]
def classes : Array Class := #[k0, k1, k2, k3, k4, k5, k6, k7, k8, k9, k10, k11, k12, k13, k14, k15, k16, k17, k18, k19]
def interned : List (Array UInt16 × Addr) := []
def slotsUsed : Nat := 10
def theMethod : MethodId := ⟨1, 2⟩
def args0 : Array Value := #[.int 3]
def aboutOver (below : List Frame) : State where
  vm := { classes := classes, interned := interned.toArray }
  heap := heap
  slotsUsed := slotsUsed
  threads := #[{ frames := .invoking theMethod args0 :: below }]
def below0 : List Frame := [.native { method := ⟨0, 0⟩, args := #[] }]
def about1 : State := aboutOver below0
def p0 : Program := .bare "" "" ""
def e0 : Env := launch0.env 0 0 0
theorem w_frames : about1.frames = Frame.invoking theMethod args0 :: below0 := rfl
set_option maxRecDepth 65536 in
theorem w_args : argsFit about1.vm theMethod args0 = true := by decide +kernel
set_option maxRecDepth 65536 in
theorem w_heap : heapFits about1 = true := by decide +kernel
set_option maxRecDepth 65536 in
theorem w_runnable : about1.curStatus? = some .runnable := by decide +kernel
set_option maxRecDepth 65536 in
theorem w_alone : about1.alone = true := by decide +kernel
set_option maxRecDepth 65536 in
theorem w_named : about1.methodNamed? x = some theMethod := by decide +kernel
set_option maxRecDepth 65536 in
theorem w_hears : about1.hears theMethod below0 = true := by decide +kernel
set_option maxRecDepth 65536 in
theorem w_ripe : about1.ripe theMethod args0 below0 = true := by decide +kernel
theorem w_running : about1.status = .running := rfl
set_option maxRecDepth 65536 in
theorem w_room : about1.hasRoom e0.platform room_1 = true :=
  launch0.hasRoom_least _ room_1 (by decide +kernel) (by decide +kernel) (by decide +kernel) (by decide +kernel) (by decide +kernel) (by decide +kernel)
theorem allAtoms_all (ts : List Jvm.Cond) (a : Array Jvm.Value) (st : Jvm.State) : (allAtoms ts).before a st = ts.all (fun c => c.before a st) := by
  induction ts with
  | nil => rfl
  | cons c t ih =>
    show (Jvm.Cond.and c (allAtoms t)).before a st = _
    rw [Jvm.Cond.before_and, ih, List.all_cons]
def words1 : List Jvm.Cond := Jvm.Cond.code x code maxLocals ret :: tables_1
/-- a 'code' word, met by the world's own term for the bytes: nothing is compared byte by byte -/
theorem code_word {y : MethodName} {bytes : ByteArray} {mx : Nat} {rt : Option FieldType} {a : Array Value} {s : State} {m : MethodId} {meth : Method} {c : Code} (h1 : s.methodNamed? y = some m) (h2 : s.vm.method? m = some meth) (h3 : meth.code = some c) (h4 : c.code = bytes)
    (h5 : (c.maxLocals == mx && c.exceptionTable.isEmpty && decide (c.maxStack ≤ mostOperands) && decide (meth.sig.returnType = rt) && !meth.locks && decide (parseMethodDescriptor y.desc = some meth.sig)) = true) : (Jvm.Cond.code y bytes mx rt).before a s = true := by
  simp only [Bool.and_eq_true, beq_iff_eq, Bool.not_eq_true', decide_eq_true_eq] at h5
  obtain ⟨⟨⟨⟨⟨g1, g2⟩, g3⟩, g4⟩, g5⟩, g6⟩ := h5
  simp [Cond.before, Cond.holds, Cond.value, h1, h2, h3, h4, g1, g2, g3, g4, g5, g6]
def isCode : Jvm.Cond → Bool
  | .code _ _ _ _ => true
  | _ => false
theorem all_split {L : List Jvm.Cond} {P : Jvm.Cond → Bool} (h1 : L.all (fun c => isCode c || P c) = true) (h2 : ∀ c ∈ L.filter isCode, P c = true) : L.all P = true := by
  refine List.all_eq_true.mpr fun c hc => ?_
  have h := List.all_eq_true.mp h1 c hc
  rcases Bool.eq_false_or_eq_true (isCode c) with hi | hi
  · exact h2 c (List.mem_filter.mpr ⟨hc, hi⟩)
  · simpa [hi] using h
set_option maxRecDepth 65536 in
theorem w_c0 : (Jvm.Cond.code x code maxLocals ret).before args0 about1 = true := code_word (m := ⟨1, 2⟩) (meth := k1m2) (c := k1c2) (by decide +kernel) rfl rfl rfl (by decide +kernel)
set_option maxRecDepth 65536 in
theorem w_c1 : (Jvm.Cond.code ({ cls := "com/example/cartouche/cartouche/ControlCharacters", name := "unicodeEscape", desc := "(C)Ljava/lang/String;" } : Jvm.MethodName) prog_1_method_3_code (1 : Nat) (Option.some (Jvm.ClassFile.FieldType.object "java/lang/String"))).before args0 about1 = true := code_word (m := ⟨2, 1⟩) (meth := k2m1) (c := k2c1) (by decide +kernel) rfl rfl rfl (by decide +kernel)
set_option maxRecDepth 65536 in
theorem w_c2 : (Jvm.Cond.code ({ cls := "java/lang/StringBuilder", name := "<init>", desc := "(I)V" } : Jvm.MethodName) jdk_67_method_2_code (2 : Nat) (Option.none : Option Jvm.ClassFile.FieldType)).before args0 about1 = true := code_word (m := ⟨8, 1⟩) (meth := k8m1) (c := k8c1) (by decide +kernel) rfl rfl rfl (by decide +kernel)
set_option maxRecDepth 65536 in
theorem w_c3 : (Jvm.Cond.code ({ cls := "java/lang/AbstractStringBuilder", name := "<init>", desc := "(I)V" } : Jvm.MethodName) jdk_68_method_2_code (2 : Nat) (Option.none : Option Jvm.ClassFile.FieldType)).before args0 about1 = true := code_word (m := ⟨5, 1⟩) (meth := k5m1) (c := k5c1) (by decide +kernel) rfl rfl rfl (by decide +kernel)
set_option maxRecDepth 65536 in
theorem w_c4 : (Jvm.Cond.code ({ cls := "java/lang/Object", name := "<init>", desc := "()V" } : Jvm.MethodName) object_method_1_code (1 : Nat) (Option.none : Option Jvm.ClassFile.FieldType)).before args0 about1 = true := code_word (m := ⟨0, 0⟩) (meth := k0m0) (c := k0c0) (by decide +kernel) rfl rfl rfl (by decide +kernel)
set_option maxRecDepth 65536 in
theorem w_c5 : (Jvm.Cond.code ({ cls := "java/lang/StringBuilder", name := "append", desc := "(Ljava/lang/String;)Ljava/lang/StringBuilder;" } : Jvm.MethodName) jdk_67_method_7_code (2 : Nat) (Option.some (Jvm.ClassFile.FieldType.object "java/lang/StringBuilder"))).before args0 about1 = true := code_word (m := ⟨8, 2⟩) (meth := k8m2) (c := k8c2) (by decide +kernel) rfl rfl rfl (by decide +kernel)
set_option maxRecDepth 65536 in
theorem w_c6 : (Jvm.Cond.code ({ cls := "java/lang/AbstractStringBuilder", name := "append", desc := "(Ljava/lang/String;)Ljava/lang/AbstractStringBuilder;" } : Jvm.MethodName) jdk_68_method_22_code (3 : Nat) (Option.some (Jvm.ClassFile.FieldType.object "java/lang/AbstractStringBuilder"))).before args0 about1 = true := code_word (m := ⟨5, 4⟩) (meth := k5m4) (c := k5c4) (by decide +kernel) rfl rfl rfl (by decide +kernel)
set_option maxRecDepth 65536 in
theorem w_c7 : (Jvm.Cond.code ({ cls := "java/lang/String", name := "length", desc := "()I" } : Jvm.MethodName) jdk_42_method_54_code (1 : Nat) (Option.some Jvm.ClassFile.FieldType.int)).before args0 about1 = true := code_word (m := ⟨11, 2⟩) (meth := k11m2) (c := k11c2) (by decide +kernel) rfl rfl rfl (by decide +kernel)
set_option maxRecDepth 65536 in
theorem w_c8 : (Jvm.Cond.code ({ cls := "java/lang/String", name := "coder", desc := "()B" } : Jvm.MethodName) jdk_42_method_152_code (1 : Nat) (Option.some Jvm.ClassFile.FieldType.byte)).before args0 about1 = true := code_word (m := ⟨11, 6⟩) (meth := k11m6) (c := k11c6) (by decide +kernel) rfl rfl rfl (by decide +kernel)
set_option maxRecDepth 65536 in
theorem w_c9 : (Jvm.Cond.code ({ cls := "java/lang/AbstractStringBuilder", name := "ensureCapacityInternal", desc := "(I)V" } : Jvm.MethodName) jdk_68_method_9_code (3 : Nat) (Option.none : Option Jvm.ClassFile.FieldType)).before args0 about1 = true := code_word (m := ⟨5, 3⟩) (meth := k5m3) (c := k5c3) (by decide +kernel) rfl rfl rfl (by decide +kernel)
set_option maxRecDepth 65536 in
theorem w_c10 : (Jvm.Cond.code ({ cls := "java/lang/AbstractStringBuilder", name := "putStringAt", desc := "(ILjava/lang/String;)V" } : Jvm.MethodName) jdk_68_method_73_code (3 : Nat) (Option.none : Option Jvm.ClassFile.FieldType)).before args0 about1 = true := code_word (m := ⟨5, 9⟩) (meth := k5m9) (c := k5c9) (by decide +kernel) rfl rfl rfl (by decide +kernel)
set_option maxRecDepth 65536 in
theorem w_c11 : (Jvm.Cond.code ({ cls := "java/lang/AbstractStringBuilder", name := "inflateIfNeededFor", desc := "(Ljava/lang/String;)V" } : Jvm.MethodName) jdk_68_method_71_code (2 : Nat) (Option.none : Option Jvm.ClassFile.FieldType)).before args0 about1 = true := code_word (m := ⟨5, 8⟩) (meth := k5m8) (c := k5c8) (by decide +kernel) rfl rfl rfl (by decide +kernel)
set_option maxRecDepth 65536 in
theorem w_c12 : (Jvm.Cond.code ({ cls := "java/lang/String", name := "getBytes", desc := "([BIB)V" } : Jvm.MethodName) jdk_42_method_147_code (4 : Nat) (Option.none : Option Jvm.ClassFile.FieldType)).before args0 about1 = true := code_word (m := ⟨11, 4⟩) (meth := k11m4) (c := k11c4) (by decide +kernel) rfl rfl rfl (by decide +kernel)
set_option maxRecDepth 65536 in
theorem w_c13 : (Jvm.Cond.code ({ cls := "java/lang/String", name := "charAt", desc := "(I)C" } : Jvm.MethodName) jdk_42_method_56_code (2 : Nat) (Option.some Jvm.ClassFile.FieldType.char)).before args0 about1 = true := code_word (m := ⟨11, 3⟩) (meth := k11m3) (c := k11c3) (by decide +kernel) rfl rfl rfl (by decide +kernel)
set_option maxRecDepth 65536 in
theorem w_c14 : (Jvm.Cond.code ({ cls := "java/lang/String", name := "isLatin1", desc := "()Z" } : Jvm.MethodName) jdk_42_method_154_code (1 : Nat) (Option.some Jvm.ClassFile.FieldType.boolean)).before args0 about1 = true := code_word (m := ⟨11, 7⟩) (meth := k11m7) (c := k11c7) (by decide +kernel) rfl rfl rfl (by decide +kernel)
set_option maxRecDepth 65536 in
theorem w_c15 : (Jvm.Cond.code ({ cls := "java/lang/StringLatin1", name := "charAt", desc := "([BI)C" } : Jvm.MethodName) jdk_43_method_2_code (2 : Nat) (Option.some Jvm.ClassFile.FieldType.char)).before args0 about1 = true := code_word (m := ⟨13, 1⟩) (meth := k13m1) (c := k13c1) (by decide +kernel) rfl rfl rfl (by decide +kernel)
set_option maxRecDepth 65536 in
theorem w_c16 : (Jvm.Cond.code ({ cls := "java/lang/String", name := "checkIndex", desc := "(II)V" } : Jvm.MethodName) jdk_42_method_155_code (2 : Nat) (Option.none : Option Jvm.ClassFile.FieldType)).before args0 about1 = true := code_word (m := ⟨11, 8⟩) (meth := k11m8) (c := k11c8) (by decide +kernel) rfl rfl rfl (by decide +kernel)
set_option maxRecDepth 65536 in
theorem w_c17 : (Jvm.Cond.code ({ cls := "jdk/internal/util/Preconditions", name := "checkIndex", desc := "(IILjava/util/function/BiFunction;)I" } : Jvm.MethodName) jdk_41_method_11_code (3 : Nat) (Option.some Jvm.ClassFile.FieldType.int)).before args0 about1 = true := code_word (m := ⟨14, 1⟩) (meth := k14m1) (c := k14c1) (by decide +kernel) rfl rfl rfl (by decide +kernel)
set_option maxRecDepth 65536 in
theorem w_c18 : (Jvm.Cond.code ({ cls := "java/lang/StringBuilder", name := "append", desc := "(C)Ljava/lang/StringBuilder;" } : Jvm.MethodName) jdk_67_method_14_code (2 : Nat) (Option.some (Jvm.ClassFile.FieldType.object "java/lang/StringBuilder"))).before args0 about1 = true := code_word (m := ⟨8, 3⟩) (meth := k8m3) (c := k8c3) (by decide +kernel) rfl rfl rfl (by decide +kernel)
set_option maxRecDepth 65536 in
theorem w_c19 : (Jvm.Cond.code ({ cls := "java/lang/AbstractStringBuilder", name := "append", desc := "(C)Ljava/lang/AbstractStringBuilder;" } : Jvm.MethodName) jdk_68_method_31_code (2 : Nat) (Option.some (Jvm.ClassFile.FieldType.object "java/lang/AbstractStringBuilder"))).before args0 about1 = true := code_word (m := ⟨5, 5⟩) (meth := k5m5) (c := k5c5) (by decide +kernel) rfl rfl rfl (by decide +kernel)
set_option maxRecDepth 65536 in
theorem w_c20 : (Jvm.Cond.code ({ cls := "java/lang/AbstractStringBuilder", name := "isLatin1", desc := "()Z" } : Jvm.MethodName) jdk_68_method_68_code (1 : Nat) (Option.some Jvm.ClassFile.FieldType.boolean)).before args0 about1 = true := code_word (m := ⟨5, 7⟩) (meth := k5m7) (c := k5c7) (by decide +kernel) rfl rfl rfl (by decide +kernel)
set_option maxRecDepth 65536 in
theorem w_c21 : (Jvm.Cond.code ({ cls := "java/lang/StringLatin1", name := "canEncode", desc := "(C)Z" } : Jvm.MethodName) jdk_43_method_3_code (1 : Nat) (Option.some Jvm.ClassFile.FieldType.boolean)).before args0 about1 = true := code_word (m := ⟨13, 2⟩) (meth := k13m2) (c := k13c2) (by decide +kernel) rfl rfl rfl (by decide +kernel)
set_option maxRecDepth 65536 in
theorem w_c22 : (Jvm.Cond.code ({ cls := "java/lang/StringBuilder", name := "toString", desc := "()Ljava/lang/String;" } : Jvm.MethodName) jdk_67_method_42_code (1 : Nat) (Option.some (Jvm.ClassFile.FieldType.object "java/lang/String"))).before args0 about1 = true := code_word (m := ⟨8, 4⟩) (meth := k8m4) (c := k8c4) (by decide +kernel) rfl rfl rfl (by decide +kernel)
set_option maxRecDepth 65536 in
theorem w_c23 : (Jvm.Cond.code ({ cls := "java/lang/String", name := "<init>", desc := "(Ljava/lang/StringBuilder;)V" } : Jvm.MethodName) jdk_42_method_53_code (2 : Nat) (Option.none : Option Jvm.ClassFile.FieldType)).before args0 about1 = true := code_word (m := ⟨11, 1⟩) (meth := k11m1) (c := k11c1) (by decide +kernel) rfl rfl rfl (by decide +kernel)
set_option maxRecDepth 65536 in
theorem w_c24 : (Jvm.Cond.code ({ cls := "java/lang/String", name := "<init>", desc := "(Ljava/lang/AbstractStringBuilder;Ljava/lang/Void;)V" } : Jvm.MethodName) jdk_42_method_150_code (5 : Nat) (Option.none : Option Jvm.ClassFile.FieldType)).before args0 about1 = true := code_word (m := ⟨11, 5⟩) (meth := k11m5) (c := k11c5) (by decide +kernel) rfl rfl rfl (by decide +kernel)
set_option maxRecDepth 65536 in
theorem w_c25 : (Jvm.Cond.code ({ cls := "java/lang/AbstractStringBuilder", name := "getValue", desc := "()[B" } : Jvm.MethodName) jdk_68_method_64_code (1 : Nat) (Option.some (Jvm.ClassFile.FieldType.array Jvm.ClassFile.FieldType.byte))).before args0 about1 = true := code_word (m := ⟨5, 6⟩) (meth := k5m6) (c := k5c6) (by decide +kernel) rfl rfl rfl (by decide +kernel)
set_option maxRecDepth 65536 in
theorem w_c26 : (Jvm.Cond.code ({ cls := "java/lang/StringBuilder", name := "length", desc := "()I" } : Jvm.MethodName) jdk_67_method_93_code (1 : Nat) (Option.some Jvm.ClassFile.FieldType.int)).before args0 about1 = true := code_word (m := ⟨8, 5⟩) (meth := k8m5) (c := k8c5) (by decide +kernel) rfl rfl rfl (by decide +kernel)
set_option maxRecDepth 65536 in
theorem w_c27 : (Jvm.Cond.code ({ cls := "java/lang/AbstractStringBuilder", name := "length", desc := "()I" } : Jvm.MethodName) jdk_68_method_6_code (1 : Nat) (Option.some Jvm.ClassFile.FieldType.int)).before args0 about1 = true := code_word (m := ⟨5, 2⟩) (meth := k5m2) (c := k5c2) (by decide +kernel) rfl rfl rfl (by decide +kernel)
set_option maxRecDepth 65536 in
theorem w_c28 : (Jvm.Cond.code ({ cls := "java/util/Arrays", name := "copyOfRange", desc := "([BII)[B" } : Jvm.MethodName) jdk_65_method_132_code (3 : Nat) (Option.some (Jvm.ClassFile.FieldType.array Jvm.ClassFile.FieldType.byte))).before args0 about1 = true := code_word (m := ⟨15, 1⟩) (meth := k15m1) (c := k15c1) (by decide +kernel) rfl rfl rfl (by decide +kernel)
set_option maxRecDepth 65536 in
theorem w_c29 : (Jvm.Cond.code ({ cls := "com/example/cartouche/cartouche/ControlCharactersUnicodeEscapePinLaw", name := "hexVal", desc := "(C)I" } : Jvm.MethodName) method_2_code (1 : Nat) (Option.some Jvm.ClassFile.FieldType.int)).before args0 about1 = true := code_word (m := ⟨1, 1⟩) (meth := k1m1) (c := k1c1) (by decide +kernel) rfl rfl rfl (by decide +kernel)
def codes1 : List Jvm.Cond := [Jvm.Cond.code x code maxLocals ret, Jvm.Cond.code ({ cls := "com/example/cartouche/cartouche/ControlCharacters", name := "unicodeEscape", desc := "(C)Ljava/lang/String;" } : Jvm.MethodName) prog_1_method_3_code (1 : Nat) (Option.some (Jvm.ClassFile.FieldType.object "java/lang/String")), Jvm.Cond.code ({ cls := "java/lang/StringBuilder", name := "<init>", desc := "(I)V" } : Jvm.MethodName) jdk_67_method_2_code (2 : Nat) (Option.none : Option Jvm.ClassFile.FieldType), Jvm.Cond.code ({ cls := "java/lang/AbstractStringBuilder", name := "<init>", desc := "(I)V" } : Jvm.MethodName) jdk_68_method_2_code (2 : Nat) (Option.none : Option Jvm.ClassFile.FieldType), Jvm.Cond.code ({ cls := "java/lang/Object", name := "<init>", desc := "()V" } : Jvm.MethodName) object_method_1_code (1 : Nat) (Option.none : Option Jvm.ClassFile.FieldType), Jvm.Cond.code ({ cls := "java/lang/StringBuilder", name := "append", desc := "(Ljava/lang/String;)Ljava/lang/StringBuilder;" } : Jvm.MethodName) jdk_67_method_7_code (2 : Nat) (Option.some (Jvm.ClassFile.FieldType.object "java/lang/StringBuilder")), Jvm.Cond.code ({ cls := "java/lang/AbstractStringBuilder", name := "append", desc := "(Ljava/lang/String;)Ljava/lang/AbstractStringBuilder;" } : Jvm.MethodName) jdk_68_method_22_code (3 : Nat) (Option.some (Jvm.ClassFile.FieldType.object "java/lang/AbstractStringBuilder")), Jvm.Cond.code ({ cls := "java/lang/String", name := "length", desc := "()I" } : Jvm.MethodName) jdk_42_method_54_code (1 : Nat) (Option.some Jvm.ClassFile.FieldType.int), Jvm.Cond.code ({ cls := "java/lang/String", name := "coder", desc := "()B" } : Jvm.MethodName) jdk_42_method_152_code (1 : Nat) (Option.some Jvm.ClassFile.FieldType.byte), Jvm.Cond.code ({ cls := "java/lang/AbstractStringBuilder", name := "ensureCapacityInternal", desc := "(I)V" } : Jvm.MethodName) jdk_68_method_9_code (3 : Nat) (Option.none : Option Jvm.ClassFile.FieldType), Jvm.Cond.code ({ cls := "java/lang/AbstractStringBuilder", name := "putStringAt", desc := "(ILjava/lang/String;)V" } : Jvm.MethodName) jdk_68_method_73_code (3 : Nat) (Option.none : Option Jvm.ClassFile.FieldType), Jvm.Cond.code ({ cls := "java/lang/AbstractStringBuilder", name := "inflateIfNeededFor", desc := "(Ljava/lang/String;)V" } : Jvm.MethodName) jdk_68_method_71_code (2 : Nat) (Option.none : Option Jvm.ClassFile.FieldType), Jvm.Cond.code ({ cls := "java/lang/String", name := "getBytes", desc := "([BIB)V" } : Jvm.MethodName) jdk_42_method_147_code (4 : Nat) (Option.none : Option Jvm.ClassFile.FieldType), Jvm.Cond.code ({ cls := "java/lang/String", name := "charAt", desc := "(I)C" } : Jvm.MethodName) jdk_42_method_56_code (2 : Nat) (Option.some Jvm.ClassFile.FieldType.char), Jvm.Cond.code ({ cls := "java/lang/String", name := "isLatin1", desc := "()Z" } : Jvm.MethodName) jdk_42_method_154_code (1 : Nat) (Option.some Jvm.ClassFile.FieldType.boolean), Jvm.Cond.code ({ cls := "java/lang/StringLatin1", name := "charAt", desc := "([BI)C" } : Jvm.MethodName) jdk_43_method_2_code (2 : Nat) (Option.some Jvm.ClassFile.FieldType.char), Jvm.Cond.code ({ cls := "java/lang/String", name := "checkIndex", desc := "(II)V" } : Jvm.MethodName) jdk_42_method_155_code (2 : Nat) (Option.none : Option Jvm.ClassFile.FieldType), Jvm.Cond.code ({ cls := "jdk/internal/util/Preconditions", name := "checkIndex", desc := "(IILjava/util/function/BiFunction;)I" } : Jvm.MethodName) jdk_41_method_11_code (3 : Nat) (Option.some Jvm.ClassFile.FieldType.int), Jvm.Cond.code ({ cls := "java/lang/StringBuilder", name := "append", desc := "(C)Ljava/lang/StringBuilder;" } : Jvm.MethodName) jdk_67_method_14_code (2 : Nat) (Option.some (Jvm.ClassFile.FieldType.object "java/lang/StringBuilder")), Jvm.Cond.code ({ cls := "java/lang/AbstractStringBuilder", name := "append", desc := "(C)Ljava/lang/AbstractStringBuilder;" } : Jvm.MethodName) jdk_68_method_31_code (2 : Nat) (Option.some (Jvm.ClassFile.FieldType.object "java/lang/AbstractStringBuilder")), Jvm.Cond.code ({ cls := "java/lang/AbstractStringBuilder", name := "isLatin1", desc := "()Z" } : Jvm.MethodName) jdk_68_method_68_code (1 : Nat) (Option.some Jvm.ClassFile.FieldType.boolean), Jvm.Cond.code ({ cls := "java/lang/StringLatin1", name := "canEncode", desc := "(C)Z" } : Jvm.MethodName) jdk_43_method_3_code (1 : Nat) (Option.some Jvm.ClassFile.FieldType.boolean), Jvm.Cond.code ({ cls := "java/lang/StringBuilder", name := "toString", desc := "()Ljava/lang/String;" } : Jvm.MethodName) jdk_67_method_42_code (1 : Nat) (Option.some (Jvm.ClassFile.FieldType.object "java/lang/String")), Jvm.Cond.code ({ cls := "java/lang/String", name := "<init>", desc := "(Ljava/lang/StringBuilder;)V" } : Jvm.MethodName) jdk_42_method_53_code (2 : Nat) (Option.none : Option Jvm.ClassFile.FieldType), Jvm.Cond.code ({ cls := "java/lang/String", name := "<init>", desc := "(Ljava/lang/AbstractStringBuilder;Ljava/lang/Void;)V" } : Jvm.MethodName) jdk_42_method_150_code (5 : Nat) (Option.none : Option Jvm.ClassFile.FieldType), Jvm.Cond.code ({ cls := "java/lang/AbstractStringBuilder", name := "getValue", desc := "()[B" } : Jvm.MethodName) jdk_68_method_64_code (1 : Nat) (Option.some (Jvm.ClassFile.FieldType.array Jvm.ClassFile.FieldType.byte)), Jvm.Cond.code ({ cls := "java/lang/StringBuilder", name := "length", desc := "()I" } : Jvm.MethodName) jdk_67_method_93_code (1 : Nat) (Option.some Jvm.ClassFile.FieldType.int), Jvm.Cond.code ({ cls := "java/lang/AbstractStringBuilder", name := "length", desc := "()I" } : Jvm.MethodName) jdk_68_method_6_code (1 : Nat) (Option.some Jvm.ClassFile.FieldType.int), Jvm.Cond.code ({ cls := "java/util/Arrays", name := "copyOfRange", desc := "([BII)[B" } : Jvm.MethodName) jdk_65_method_132_code (3 : Nat) (Option.some (Jvm.ClassFile.FieldType.array Jvm.ClassFile.FieldType.byte)), Jvm.Cond.code ({ cls := "com/example/cartouche/cartouche/ControlCharactersUnicodeEscapePinLaw", name := "hexVal", desc := "(C)I" } : Jvm.MethodName) method_2_code (1 : Nat) (Option.some Jvm.ClassFile.FieldType.int)]
set_option maxRecDepth 65536 in
theorem codes_eq : words1.filter isCode = codes1 := rfl
theorem w_codes : ∀ c ∈ words1.filter isCode, c.before args0 about1 = true := by
  rw [codes_eq]
  intro c hc
  simp only [codes1, List.mem_cons, List.not_mem_nil, or_false] at hc
  rcases hc with rfl | rfl | rfl | rfl | rfl | rfl | rfl | rfl | rfl | rfl | rfl | rfl | rfl | rfl | rfl | rfl | rfl | rfl | rfl | rfl | rfl | rfl | rfl | rfl | rfl | rfl | rfl | rfl | rfl | rfl
  · exact w_c0
  · exact w_c1
  · exact w_c2
  · exact w_c3
  · exact w_c4
  · exact w_c5
  · exact w_c6
  · exact w_c7
  · exact w_c8
  · exact w_c9
  · exact w_c10
  · exact w_c11
  · exact w_c12
  · exact w_c13
  · exact w_c14
  · exact w_c15
  · exact w_c16
  · exact w_c17
  · exact w_c18
  · exact w_c19
  · exact w_c20
  · exact w_c21
  · exact w_c22
  · exact w_c23
  · exact w_c24
  · exact w_c25
  · exact w_c26
  · exact w_c27
  · exact w_c28
  · exact w_c29
set_option maxRecDepth 65536 in
theorem w_t1 : (words1.take 24).all (fun c => isCode c || c.before args0 about1) = true := by decide +kernel
set_option maxRecDepth 65536 in
theorem w_t2 : ((words1.drop 24).take 24).all (fun c => isCode c || c.before args0 about1) = true := by decide +kernel
set_option maxRecDepth 65536 in
theorem w_t3 : (((words1.drop 24).drop 24).take 24).all (fun c => isCode c || c.before args0 about1) = true := by decide +kernel
set_option maxRecDepth 65536 in
theorem w_t4 : ((((words1.drop 24).drop 24).drop 24).take 24).all (fun c => isCode c || c.before args0 about1) = true := by decide +kernel
set_option maxRecDepth 65536 in
theorem w_t5 : (((((words1.drop 24).drop 24).drop 24).drop 24).take 24).all (fun c => isCode c || c.before args0 about1) = true := by decide +kernel
set_option maxRecDepth 65536 in
theorem w_t6 : ((((((words1.drop 24).drop 24).drop 24).drop 24).drop 24).take 24).all (fun c => isCode c || c.before args0 about1) = true := by decide +kernel
set_option maxRecDepth 65536 in
theorem w_t7 : (((((((words1.drop 24).drop 24).drop 24).drop 24).drop 24).drop 24).take 24).all (fun c => isCode c || c.before args0 about1) = true := by decide +kernel
set_option maxRecDepth 65536 in
theorem w_t8 : (((((((words1.drop 24).drop 24).drop 24).drop 24).drop 24).drop 24).drop 24).all (fun c => isCode c || c.before args0 about1) = true := by decide +kernel
theorem w_tables : (allAtoms (Jvm.Cond.code x code maxLocals ret :: tables_1)).before args0 about1 = true := by
  rw [allAtoms_all]
  show words1.all (fun c => c.before args0 about1) = true
  refine all_split ?_ w_codes
  rw [← List.take_append_drop 24 words1, List.all_append, w_t1, ← List.take_append_drop 24 (words1.drop 24), List.all_append, w_t2, ← List.take_append_drop 24 ((words1.drop 24).drop 24), List.all_append, w_t3, ← List.take_append_drop 24 (((words1.drop 24).drop 24).drop 24), List.all_append, w_t4, ← List.take_append_drop 24 ((((words1.drop 24).drop 24).drop 24).drop 24), List.all_append, w_t5, ← List.take_append_drop 24 (((((words1.drop 24).drop 24).drop 24).drop 24).drop 24), List.all_append, w_t6, ← List.take_append_drop 24 ((((((words1.drop 24).drop 24).drop 24).drop 24).drop 24).drop 24), List.all_append, w_t7, w_t8]
  rfl
set_option maxRecDepth 65536 in
theorem w_rest : rest_1_c.before args0 about1 = true := by decide +kernel
set_option maxRecDepth 65536 in
theorem w_case : (Jvm.Cond.and given_1 narrow_1).before args0 about1 = true := by decide +kernel
set_option maxRecDepth 65536 in
theorem w_consts : constsHeld consts_1 about1 := Jvm.Lit.constsHeldB_iff.mp (by decide +kernel)
theorem w_applies : (headSpec (Jvm.Cond.code x code maxLocals ret :: tables_1) room_1).applies x e0.platform about1 = true :=
  (Spec.applies_iff w_frames).mpr ⟨w_running, w_runnable, w_alone, w_named, w_hears, w_ripe, w_room, w_tables⟩
theorem atStart : AtStart classFile x code maxLocals ret World_1 tables_1 room_1 Calls_1 rest_1 Pre_1 launch0 p0 e0 about1 theMethod args0 below0 :=
  ⟨lists_1, trivial, launch0.admits_env _ _ _, launch0.least_env, fairChoices_fair.cas, fairChoices_fair.clock, w_frames, w_args, w_heap, w_applies, ⟨w_consts, trivial⟩, w_rest, w_case⟩
end start1
theorem witness_1 : WitnessClaimed_1 := ⟨start1.p0, start1.e0, start1.about1, start1.theMethod, start1.args0, start1.below0, start1.atStart⟩
end Jvm.Pilot.@@N@@
