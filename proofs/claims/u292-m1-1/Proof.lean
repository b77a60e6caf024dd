import JvmDerived
import JvmDerived.Pilot.@@N@@Statement
import JvmDerived.Pilot.@@N@@Code
set_option linter.unusedVariables false
set_option linter.unusedSimpArgs false
namespace Jvm.RoadKit
open Sem ClassFile Op Lib Jvm.Stand Jvm.Free Jvm.LawKit
section Own
variable {p : Program} {l : Launch} {e : Env} {R : Room} {s : State} {m : MethodId} {args : Array Value} {below : List Frame} {meth : Method} {c : Code} {T : State} {locs : List Loc} {cells slots : Nat} {Z : State} {a0 : Array Value} {h : Heap}
/-- what is left of a body: from the frame g on it ends, and Q holds of what it returns, the heap and the places written -/
def Goes (p : Program) (e : Env) (below : List Frame) (s : State) (K N : Nat) (Q : Option Value → Heap → List Loc → Prop) (T : State) (g : JFrame) : Prop :=
  ∃ s₂ o, Steps p.tables e below (T.setTop g) s₂ ∧ s₂.status = .running ∧ Ended s₂ below o ∧ ∃ v L, o = .returned v ∧ Q v s₂.heap L ∧ FrameEnd s o s₂ L K N
theorem Goes.step {K N : Nat} {Q : Option Value → Heap → List Loc → Prop} {T' : State} {g g' : JFrame} (k : ∀ t, Steps p.tables e below (T'.setTop g') t → Steps p.tables e below (T.setTop g) t) (h : Goes p e below s K N Q T' g') : Goes p e below s K N Q T g := by
  obtain ⟨s₂, o, h1, h2⟩ := h
  exact ⟨s₂, o, k _ h1, h2⟩
theorem Goes.jump {K N : Nat} {Q : Option Value → Heap → List Loc → Prop} {T' : State} {g g' : JFrame} (k : Steps p.tables e below (T.setTop g) (T'.setTop g')) (h : Goes p e below s K N Q T' g') : Goes p e below s K N Q T g :=
  Goes.step (fun _ q => k.trans q) h
theorem Goes.ite {K N : Nat} {α : Type} {Q : α → Option Value → Heap → List Loc → Prop} {g : JFrame} {a b : α} {d : Prop} [Decidable d] (h1 : d → Goes p e below s K N (Q a) T g) (h2 : ¬ d → Goes p e below s K N (Q b) T g) : Goes p e below s K N (Q (if d then a else b)) T g := by
  split
  · next q => exact h1 q
  · next q => exact h2 q
theorem Goes.imp {K N : Nat} {Q Q' : Option Value → Heap → List Loc → Prop} {g : JFrame} (q : ∀ v h L, Q v h L → Q' v h L) (h : Goes p e below s K N Q T g) : Goes p e below s K N Q' T g := by
  obtain ⟨s₂, o, h1, h2, h3, v, L, h4, h5, h6⟩ := h
  exact ⟨s₂, o, h1, h2, h3, v, L, h4, q _ _ _ h5, h6⟩
theorem retI (X : Stand p l e R s m args below meth c T locs cells slots) (hx : p.tables.exec = Jvm.exec) {pc : Nat} {Ls : Array Slot} {z : Int32} {rest : List Value} (hret : meth.sig.returnType = some .int) (hd : decode c.code pc = .ok (.ireturn, 1)) {fs : List Frame}
    (hl : ∀ (f : JFrame) (acts : List Action), f.method = m → f.locked = none → f.entered = [] → (doReturn e (T.setTop f) acts (some (.int z))).1 = T.setFrames fs) : Steps p.tables e below (T.setTop (mkF m pc Ls (.int z :: rest))) (T.setFrames fs) := by
  have hm' : T.vm.method? m = some meth := X.method'
  have hn : narrow .int (.int z) = .int z := rfl
  show Steps p.tables e below (T.setTop { method := m, pc := pc, locals := Ls, stack := _ :: rest, locked := none }) _
  jvm_step X.here [X.here.top, hx, hd, hm', hret, hn]
  first | (intro acts; rw [hl _ acts rfl rfl rfl]) | rw [hl _ _ rfl rfl rfl]
  exact Steps.refl _
theorem retJ (X : Stand p l e R s m args below meth c T locs cells slots) (hx : p.tables.exec = Jvm.exec) {pc : Nat} {Ls : Array Slot} {z : Int64} {rest : List Value} (hret : meth.sig.returnType = some .long) (hd : decode c.code pc = .ok (.lreturn, 1)) {fs : List Frame}
    (hl : ∀ (f : JFrame) (acts : List Action), f.method = m → f.locked = none → f.entered = [] → (doReturn e (T.setTop f) acts (some (.long z))).1 = T.setFrames fs) : Steps p.tables e below (T.setTop (mkF m pc Ls (.long z :: rest))) (T.setFrames fs) :=
  retOut X hx hret rfl (Or.inr (Or.inl ⟨rfl, rfl, z, rfl⟩)) hd hl
theorem Goes.outI (X : Stand p l e R s m args below meth c T locs cells slots) (hx : p.tables.exec = Jvm.exec) (hlk : meth.locks = false) (hret : meth.sig.returnType = some .int) {pc : Nat} (hd : decode c.code pc = .ok (.ireturn, 1)) {Ls : Array Slot} {z : Int32} {rest : List Value} {K N : Nat} {Q : Option Value → Heap → List Loc → Prop}
    (hq : Q (some (.int z)) T.heap locs) (hk : cells ≤ K) (hn : slots ≤ N) : Goes p e below s K N Q T (mkF m pc Ls (.int z :: rest)) := by
  obtain ⟨fs, hr, hrun, hended, hW, hsame⟩ := X.leave (v := some (.int z)) (fun h => by rw [hret] at h; cases h) hlk
  exact ⟨_, _, retI X hx hret hd hr, hrun, hended, _, _, rfl, hq, ⟨_, rfl⟩, hW, hsame.mono hk hn⟩
theorem Goes.outJ (X : Stand p l e R s m args below meth c T locs cells slots) (hx : p.tables.exec = Jvm.exec) (hlk : meth.locks = false) (hret : meth.sig.returnType = some .long) {pc : Nat} (hd : decode c.code pc = .ok (.lreturn, 1)) {Ls : Array Slot} {z : Int64} {rest : List Value} {K N : Nat} {Q : Option Value → Heap → List Loc → Prop}
    (hq : Q (some (.long z)) T.heap locs) (hk : cells ≤ K) (hn : slots ≤ N) : Goes p e below s K N Q T (mkF m pc Ls (.long z :: rest)) := by
  obtain ⟨fs, hr, hrun, hended, hW, hsame⟩ := X.leave (v := some (.long z)) (fun h => by rw [hret] at h; cases h) hlk
  exact ⟨_, _, retJ X hx hret hd hr, hrun, hended, _, _, rfl, hq, ⟨_, rfl⟩, hW, hsame.mono hk hn⟩
theorem Goes.outN (X : Stand p l e R s m args below meth c T locs cells slots) (hx : p.tables.exec = Jvm.exec) (hlk : meth.locks = false) {t : FieldType} (hret : meth.sig.returnType = some t) (ht : t = .boolean ∨ t = .byte ∨ t = .char ∨ t = .short) {pc : Nat} (hd : decode c.code pc = .ok (.ireturn, 1)) {Ls : Array Slot} {z : Int32} {rest : List Value} {K N : Nat} {Q : Option Value → Heap → List Loc → Prop}
    (hq : Q (some (.int (nar t z))) T.heap locs) (hk : cells ≤ K) (hn : slots ≤ N) : Goes p e below s K N Q T (mkF m pc Ls (.int z :: rest)) := by
  obtain ⟨fs, hr, hrun, hended, hW, hsame⟩ := X.leave (v := some (.int (nar t z))) (fun h => by rw [hret] at h; cases h) hlk
  exact ⟨_, _, retN X hx hret ht hd hr, hrun, hended, _, _, rfl, hq, ⟨_, rfl⟩, hW, hsame.mono hk hn⟩
theorem Goes.outV (X : Stand p l e R s m args below meth c T locs cells slots) (hx : p.tables.exec = Jvm.exec) (hlk : meth.locks = false) (hret : meth.sig.returnType = none) {pc : Nat} (hd : decode c.code pc = .ok (.return_, 1)) {Ls : Array Slot} {K N : Nat} {Q : Option Value → Heap → List Loc → Prop}
    (hq : Q none T.heap locs) (hk : cells ≤ K) (hn : slots ≤ N) : Goes p e below s K N Q T (mkF m pc Ls []) := by
  obtain ⟨fs, hr, hrun, hended, hW, hsame⟩ := X.leave (v := none) (fun _ => rfl) hlk
  exact ⟨_, _, X.returnOut hx hret hd hr, hrun, hended, _, _, rfl, hq, ⟨_, rfl⟩, hW, hsame.mono hk hn⟩
theorem Goes.outR (X : Stand p l e R s m args below meth c T locs cells slots) (hx : p.tables.exec = Jvm.exec) (hlk : meth.locks = false) {t : FieldType} (hret : meth.sig.returnType = some t) (ht : t.isReference = true) {w : Value} (hw : w.isRef = true) {pc : Nat} (hd : decode c.code pc = .ok (.areturn, 1)) {Ls : Array Slot} {K N : Nat} {Q : Option Value → Heap → List Loc → Prop}
    (hq : Q (some w) T.heap locs) (hk : cells ≤ K) (hn : slots ≤ N) : Goes p e below s K N Q T (mkF m pc Ls [w]) := by
  obtain ⟨fs, hr, hrun, hended, hW, hsame⟩ := X.leave (v := some w) (fun h => by rw [hret] at h; cases h) hlk
  exact ⟨_, _, X.areturnOut hx hw hret ht hd hr, hrun, hended, _, _, rfl, hq, ⟨_, rfl⟩, hW, hsame.mono hk hn⟩
/-- a body that returns v and leaves the heap as it was -/
def PV (h0 : Heap) (r : Value) (v : Option Value) (h : Heap) (L : List Loc) : Prop := v = some r ∧ L = [] ∧ h = h0
def PI (h0 : Heap) (r : Int32) (v : Option Value) (h : Heap) (L : List Loc) : Prop := PV h0 (.int r) v h L
def PJ (h0 : Heap) (r : Int64) (v : Option Value) (h : Heap) (L : List Loc) : Prop := PV h0 (.long r) v h L
def PA (h0 : Heap) (r : Addr) (v : Option Value) (h : Heap) (L : List Loc) : Prop := PV h0 (.ref r) v h L
/-- a reference that may be null -/
def ov : Option Addr → Value
  | none => .null
  | some b => .ref b
def PO (h0 : Heap) (r : Option Addr) (v : Option Value) (h : Heap) (L : List Loc) : Prop := PV h0 (ov r) v h L
theorem ov_cat (o : Option Addr) : (ov o).category = 1 := by cases o <;> rfl
theorem ov_inj {a b : Option Addr} : (ov a = ov b) = (a = b) := by cases a <;> cases b <;> simp [ov]
theorem ov_ref (o : Option Addr) : (ov o).isRef = true := by cases o <;> rfl
/-- a virtual call of a body that leaves the heap as it was -/
theorem callPureV (X : Stand p l e R s m args below meth c T locs cells slots) (hx : p.tables.exec = Jvm.exec) (hZ : Z.Warmed39 s.vm) {own C : String} {index : Nat} {y z : MethodName} {bytes : ByteArray} {maxL : Nat} {ret : Option FieldType} (hown : s.vm.findClass own = some m.cls)
    (w1 : (Cond.methodLink own index y).before a0 Z = true) (w2 : (Cond.declares y).before a0 Z = true) (w3 : (Cond.selects C y z).before a0 Z = true) (w4 : (Cond.instanceMethod z).before a0 Z = true) (w5 : (Cond.code z bytes maxL ret).before a0 Z = true) (w6 : (Cond.initialized z.cls).before a0 Z = true) (hnf : NotFace s y) (hy : y.cls ≠ "java/lang/invoke/MethodHandle" ∧ y.cls ≠ "java/lang/invoke/VarHandle")
    {F W0 W : Nat} {b : Addr} {argsL rest : List Value} {r : Value} {Q : Option Value → Heap → List Loc → Prop} (hQ : ∀ v h' L, Q v h' L → PV h r v h' L)
    (hM : MetFree l z (head1 [Cond.code z bytes maxL ret] ({ frames := F, cells := 0, slots := 0, locals := W0 } : Room)) (fun a U => a = (.ref b :: argsL).toArray ∧ Z.Warmed39 U.vm ∧ U.heap = h) (fun _ _ _ _ _ => True) (fun _ U o U' => ∃ v L, o = .returned v ∧ Q v U'.heap L ∧ FrameEnd U o U' L ({ frames := F, cells := 0, slots := 0, locals := W0 } : Room).cells ({ frames := F, cells := 0, slots := 0, locals := W0 } : Room).slots))
    (hf : F + 1 ≤ R.frames) (hl : W + (maxL + 11) + W0 ≤ R.locals) (hc : cells ≤ R.cells) (hs : slots ≤ R.slots) (eT : T.heap = h) (E : Exa Z h b C) {g : JFrame} (hg : g.method = m) (hsize : g.locals.size = c.maxLocals) (hlen : ∀ sig, parseMethodDescriptor y.desc = some sig → argsL.length = sig.parameters.length)
    (hstack : g.stack = argsL.reverse ++ .ref b :: rest) (hW : 2 * g.monitorRoom + (rest.map fun v => v.category).sum ≤ W) (hd : decode c.code g.pc = .ok (.invokevirtual index, 3)) :
    ∃ T', Stand p l e R s m args below meth c T' locs cells slots ∧ T'.heap = h ∧ ∀ target, Steps p.tables e below (T'.setTop { g with pc := g.pc + 3, stack := r :: rest }) target → Steps p.tables e below (T.setTop g) target := by
  obtain ⟨cq, kq, qa, qb, qc⟩ := isOf hZ eT E
  obtain ⟨_, _, ⟨T18, L18, k18, n18⟩, -, X18, ⟨Lc, hq, l18, y18, z18⟩, st⟩ := X.virtualBack hx hown (mvT hZ w1) (mvT hZ w2) hnf (mvT hZ w3) (mvT hZ w4) hy (backOf (W := W) hM hZ w5 w6 hf hl) qa qc hg hsize (Steps.refl _) hlen hstack hW hd (fun _ _ => ⟨rfl, eT, hc, hs⟩)
  dsimp only [Pt.U, Pt.locs, Pt.cells, Pt.slots] at X18 l18 y18 z18 st hq
  subst l18 y18 z18
  obtain ⟨rfl, rfl, e18⟩ := hQ _ _ _ hq
  rw [List.append_nil] at X18
  exact ⟨T18, X18, e18, fun _ k => st.trans k⟩
/-- a static call of a body that leaves the heap as it was -/
theorem callPure (X : Stand p l e R s m args below meth c T locs cells slots) (hx : p.tables.exec = Jvm.exec) (hZ : Z.Warmed39 s.vm) {own : String} {index : Nat} {y : MethodName} {bytes : ByteArray} {maxL : Nat} {ret : Option FieldType} (hown : s.vm.findClass own = some m.cls)
    (w1 : (Cond.methodLink own index y).before a0 Z = true) (w2 : (Cond.static y).before a0 Z = true) (w3 : (Cond.initialized y.cls).before a0 Z = true) (w4 : (Cond.code y bytes maxL ret).before a0 Z = true) (hy : y.cls ≠ "java/lang/invoke/MethodHandle" ∧ y.cls ≠ "java/lang/invoke/VarHandle")
    {F W0 W : Nat} {argsL rest : List Value} {r : Value} {Q : Option Value → Heap → List Loc → Prop} (hQ : ∀ v h' L, Q v h' L → PV h r v h' L)
    (hM : MetFree l y (head1 [Cond.code y bytes maxL ret] ({ frames := F, cells := 0, slots := 0, locals := W0 } : Room)) (fun a U => a = argsL.toArray ∧ Z.Warmed39 U.vm ∧ U.heap = h) (fun _ _ _ _ _ => True) (fun _ U o U' => ∃ v L, o = .returned v ∧ Q v U'.heap L ∧ FrameEnd U o U' L ({ frames := F, cells := 0, slots := 0, locals := W0 } : Room).cells ({ frames := F, cells := 0, slots := 0, locals := W0 } : Room).slots))
    (hf : F + 1 ≤ R.frames) (hl : W + (maxL + 11) + W0 ≤ R.locals) (hc : cells ≤ R.cells) (hs : slots ≤ R.slots) (eT : T.heap = h) {g : JFrame} (hg : g.method = m) (hsize : g.locals.size = c.maxLocals) (hlen : ∀ sig, parseMethodDescriptor y.desc = some sig → argsL.length = sig.parameters.length)
    (hstack : g.stack = argsL.reverse ++ rest) (hW : 2 * g.monitorRoom + (rest.map fun v => v.category).sum ≤ W) (hd : decode c.code g.pc = .ok (.invokestatic index, 3)) :
    ∃ T', Stand p l e R s m args below meth c T' locs cells slots ∧ T'.heap = h ∧ ∀ target, Steps p.tables e below (T'.setTop { g with pc := g.pc + 3, stack := r :: rest }) target → Steps p.tables e below (T.setTop g) target := by
  obtain ⟨_, _, ⟨T18, L18, k18, n18⟩, -, X18, ⟨Lc, hq, l18, y18, z18⟩, st⟩ := Jvm.LawKit.callS X hx hown (mvT hZ w1) (mvT hZ w2) (mvT hZ w3) (mvT hZ w4) hy (backOf (W := W) hM hZ w4 w3 hf hl) hg hsize hlen hstack hW hd (fun _ _ => ⟨rfl, eT, hc, hs⟩)
  dsimp only [Pt.U, Pt.locs, Pt.cells, Pt.slots] at X18 l18 y18 z18 st hq
  subst l18 y18 z18
  obtain ⟨rfl, rfl, e18⟩ := hQ _ _ _ hq
  rw [List.append_nil] at X18
  exact ⟨T18, X18, e18, st⟩
end Own
end Jvm.RoadKit
namespace Jvm.RoadKit
open Sem ClassFile Op Lib Jvm.Stand Jvm.Free Jvm.LawKit
section OwnHeap
variable {p : Program} {l : Launch} {e : Env} {R : Room} {s : State} {m : MethodId} {args : Array Value} {below : List Frame} {meth : Method} {c : Code} {T : State} {locs : List Loc} {cells slots : Nat} {Z : State} {a0 : Array Value} {h h' : Heap} {a b : Addr} {ty : FieldType} {n : Nat} {f : Nat → Int32}
/-- a law's end: what it returns; nothing old was written -/
def PG (n0 : Nat) (r : Int32) (v : Option Value) (h : Heap) (L : List Loc) : Prop := v = some (.int r) ∧ Fr n0 L
/-- an array of n ints (bytes, chars ..): place j holds f j -/
def Ari (Z : State) (h : Heap) (a : Addr) (ty : FieldType) (n : Nat) (f : Nat → Int32) : Prop := ∃ c : Cell, Arr Z h a c ty ∧ c.slots.size = n ∧ n < 2 ^ 31 ∧ ∀ j, j < n → c.slots[j]? = some (.int (f j)) ∧ fits ty (.int (f j)) = true
theorem Ari.lt (F : Ari Z h a ty n f) : a < h.size := by obtain ⟨c, A, -⟩ := F; exact A.lt
theorem Ari.ext (F : Ari Z h a ty n f) (E : Ext h h') : Ari Z h' a ty n f := by obtain ⟨c, A, r⟩ := F; exact ⟨c, A.ext E, r⟩
theorem Ari.other {v : Value} {sl : Nat} (F : Ari Z h b ty n f) (W : Wr h h' a sl v) (q : b ≠ a) : Ari Z h' b ty n f := by obtain ⟨c, A, r⟩ := F; exact ⟨c, A.other W q, r⟩
theorem Ari.keep {ws : List Addr} (F : Ari Z h a ty n f) (K : Keep h h' ws) (q : a ∉ ws) : Ari Z h' a ty n f := by obtain ⟨c, A, r⟩ := F; exact ⟨c, ⟨K.2.1 a c A.1 q, A.2⟩, r⟩
theorem Ari.cast {g : Nat → Int32} (F : Ari Z h a ty n f) (q : ∀ j, j < n → f j = g j) : Ari Z h a ty n g := by
  obtain ⟨c, A, h1, h2, h3⟩ := F
  exact ⟨c, A, h1, h2, fun j hj => by rw [← q j hj]; exact h3 j hj⟩
def updI (f : Nat → Int32) (i : Nat) (x : Int32) : Nat → Int32 := fun j => if j = i then x else f j
theorem Ari.store {i : Nat} {x : Int32} (F : Ari Z h a ty n f) (W : Wr h h' a i (.int x)) (hi : i < n) (hx : fits ty (.int x) = true) : Ari Z h' a ty n (updI f i x) := by
  obtain ⟨c, A, h1, h2, h3⟩ := F
  refine ⟨c.setSlot i (.int x), A.same W, by rw [sz_set]; exact h1, h2, fun j hj => ?_⟩
  by_cases e : j = i
  · subst e
    simp only [updI, if_true]
    exact ⟨by simp [Cell.setSlot, h1, hj], hx⟩
  · simp only [updI, e, if_false]
    exact ⟨by rw [← (h3 j hj).1]; simp [Cell.setSlot, Array.getElem?_setIfInBounds, Ne.symm e], (h3 j hj).2⟩
theorem own_fitsI (x : Int32) : fits .int (.int x) = true := rfl
/-- newarray of N places -/
theorem newI (X : Stand p l e R s m args below meth c T locs cells slots) (hx : p.tables.exec = Jvm.exec) (hZ : Z.Warmed39 s.vm) {aty : ArrayType} (w : (Cond.arrayClass (newarray.typeOf aty)).before a0 Z = true) (eT : T.heap = h) {g : JFrame} (hg : g.method = m) (hd : decode c.code g.pc = .ok (.newarray aty, 2)) {z : Int32} {rest : List Value} (hs : g.stack = .int z :: rest)
    {N : Nat} (hz : z = Int32.ofNat N) {cap : Nat} (hcap : N ≤ cap) (hb : cap * 8 ≤ 536870912) (hc : cells + 1 ≤ R.cells) (hl : slots + cap ≤ R.slots) (hdv : defaultValue (newarray.typeOf aty) = .int 0) (hft : fits (newarray.typeOf aty) (.int 0) = true) :
    ∃ T' h', Stand p l e R s m args below meth c T' locs (cells + 1) (slots + cap) ∧ T'.heap = h' ∧ Ext h h' ∧ Ari Z h' h.size (newarray.typeOf aty) N (fun _ => 0) ∧ ∀ target, Steps p.tables e below (T'.setTop { g with pc := g.pc + 2, stack := .ref h.size :: rest }) target → Steps p.tables e below (T.setTop g) target := by
  have hN : N < 2 ^ 31 := by omega
  have ez : z.toInt = N := by rw [hz]; exact Int32.toInt_ofNat_of_lt hN
  have h0 : ¬ z < 0 := by rw [Int32.lt_iff_toInt_lt, ez]; have : (0 : Int32).toInt = 0 := rfl; omega
  have hn : z.toNatClampNeg = N := by have := nat_of h0; omega
  obtain ⟨T', h', cA, X', e', E, A, st⟩ := newP X hx hZ w eT hg hd hs h0 (cap := cap) (by omega) hb hc hl
  refine ⟨T', h', X', e', E, ⟨_, A, by rw [sz_new, hn], hN, fun j hj => ⟨?_, hft⟩⟩, st⟩
  simp [newA, hn, hj, hdv]
/-- iastore, bastore, castore at place i -/
theorem own_in {j : Int32} {i n : Nat} (hj : j = Int32.ofNat i) (hi : i < n) (hn : n < 2 ^ 31) : ¬ (j < 0 ∨ n ≤ j.toNatClampNeg) ∧ j.toNatClampNeg = i := by
  have ez : j.toInt = i := by rw [hj]; exact Int32.toInt_ofNat_of_lt (by omega)
  have h0 : ¬ j < 0 := by rw [Int32.lt_iff_toInt_lt, ez]; have : (0 : Int32).toInt = 0 := rfl; omega
  have hk : j.toNatClampNeg = i := by have := nat_of h0; omega
  exact ⟨by rintro (q | q); exact h0 q; omega, hk⟩
theorem stoI (X : Stand p l e R s m args below meth c T locs cells slots) (hx : p.tables.exec = Jvm.exec) (hZ : Z.Warmed39 s.vm) (eT : T.heap = h) (A : Ari Z h a .int n f) {j x : Int32} (i : Nat) (hj : j = Int32.ofNat i) (hi : i < n) {g : JFrame} (hg : g.method = m) {rest : List Value} (hs : g.stack = .int x :: .int j :: .ref a :: rest) (hd : decode c.code g.pc = .ok (.iastore, 1)) :
    ∃ T' h', Stand p l e R s m args below meth c T' (locs ++ [⟨a, i⟩]) cells slots ∧ T'.heap = h' ∧ Wr h h' a i (.int x) ∧ Ari Z h' a .int n (updI f i x) ∧ ∀ target, Steps p.tables e below (T'.setTop { g with pc := g.pc + 1, stack := rest }) target → Steps p.tables e below (T.setTop g) target := by
  have A' := A
  obtain ⟨cl, A1, h1, h2, h3⟩ := A
  obtain ⟨q1, q2⟩ := own_in hj hi h2
  obtain ⟨T', h', X', e', W, st⟩ := stI X hx hZ eT A1 (j := j) (by rw [h1]; exact q1) hg hs hd
  rw [q2] at X' W
  exact ⟨T', h', X', e', W, A'.store W hi rfl, st⟩
theorem stoB (X : Stand p l e R s m args below meth c T locs cells slots) (hx : p.tables.exec = Jvm.exec) (hZ : Z.Warmed39 s.vm) (eT : T.heap = h) (A : Ari Z h a .byte n f) {j x : Int32} (i : Nat) (hj : j = Int32.ofNat i) (hi : i < n) {g : JFrame} (hg : g.method = m) {rest : List Value} (hs : g.stack = .int x :: .int j :: .ref a :: rest) (hd : decode c.code g.pc = .ok (.bastore, 1)) :
    ∃ T' h', Stand p l e R s m args below meth c T' (locs ++ [⟨a, i⟩]) cells slots ∧ T'.heap = h' ∧ Wr h h' a i (.int x.toInt8.toInt32) ∧ Ari Z h' a .byte n (updI f i x.toInt8.toInt32) ∧ ∀ target, Steps p.tables e below (T'.setTop { g with pc := g.pc + 1, stack := rest }) target → Steps p.tables e below (T.setTop g) target := by
  have A' := A
  obtain ⟨cl, A1, h1, h2, h3⟩ := A
  obtain ⟨q1, q2⟩ := own_in hj hi h2
  obtain ⟨T', h', X', e', W, st⟩ := stB X hx hZ eT A1 (j := j) (by rw [h1]; exact q1) hg hs hd
  rw [q2] at X' W
  exact ⟨T', h', X', e', W, A'.store W hi (fits_nar_byte x), st⟩
theorem stoC (X : Stand p l e R s m args below meth c T locs cells slots) (hx : p.tables.exec = Jvm.exec) (hZ : Z.Warmed39 s.vm) (eT : T.heap = h) (A : Ari Z h a .char n f) {j x : Int32} (i : Nat) (hj : j = Int32.ofNat i) (hi : i < n) {g : JFrame} (hg : g.method = m) {rest : List Value} (hs : g.stack = .int x :: .int j :: .ref a :: rest) (hd : decode c.code g.pc = .ok (.castore, 1)) :
    ∃ T' h', Stand p l e R s m args below meth c T' (locs ++ [⟨a, i⟩]) cells slots ∧ T'.heap = h' ∧ Wr h h' a i (.int (nar .char x)) ∧ Ari Z h' a .char n (updI f i (nar .char x)) ∧ ∀ target, Steps p.tables e below (T'.setTop { g with pc := g.pc + 1, stack := rest }) target → Steps p.tables e below (T.setTop g) target := by
  have A' := A
  obtain ⟨cl, A1, h1, h2, h3⟩ := A
  obtain ⟨q1, q2⟩ := own_in hj hi h2
  obtain ⟨T', h', X', e', W, st⟩ := stC X hx hZ eT A1 (j := j) (by rw [h1]; exact q1) hg hs hd
  rw [q2] at X' W
  exact ⟨T', h', X', e', W, A'.store W hi (fits_nar_char x), st⟩
/-- iaload, baload at place i; arraylength -/
theorem rdI (X : Stand p l e R s m args below meth c T locs cells slots) (hx : p.tables.exec = Jvm.exec) (hZ : Z.Warmed39 s.vm) (eT : T.heap = h) (A : Ari Z h a .int n f) {j : Int32} (i : Nat) (hj : j = Int32.ofNat i) (hi : i < n) {g : JFrame} (hg : g.method = m) {rest : List Value} (hs : g.stack = .int j :: .ref a :: rest) (hd : decode c.code g.pc = .ok (.iaload, 1)) :
    ∀ target, Steps p.tables e below (T.setTop { g with pc := g.pc + 1, stack := .int (f i) :: rest }) target → Steps p.tables e below (T.setTop g) target := by
  obtain ⟨cl, A1, h1, h2, h3⟩ := A
  obtain ⟨q1, q2⟩ := own_in hj hi h2
  intro target k
  exact X.iaload hx (by rw [eT]; exact A1.1) (State.isArrayOf_alike hZ.alike A1.2.1) A1.2.2 (by rw [h1]; exact q1) (by rw [q2]; exact (h3 i hi).1) hg hs hd _ k
theorem rdB (X : Stand p l e R s m args below meth c T locs cells slots) (hx : p.tables.exec = Jvm.exec) (hZ : Z.Warmed39 s.vm) (eT : T.heap = h) (A : Ari Z h a .byte n f) {j : Int32} (i : Nat) (hj : j = Int32.ofNat i) (hi : i < n) {g : JFrame} (hg : g.method = m) {rest : List Value} (hs : g.stack = .int j :: .ref a :: rest) (hd : decode c.code g.pc = .ok (.baload, 1)) :
    ∀ target, Steps p.tables e below (T.setTop { g with pc := g.pc + 1, stack := .int (f i) :: rest }) target → Steps p.tables e below (T.setTop g) target := by
  obtain ⟨cl, A1, h1, h2, h3⟩ := A
  obtain ⟨q1, q2⟩ := own_in hj hi h2
  intro target k
  exact X.baloadBytes hx (by rw [eT]; exact A1.1) (State.isArrayOf_alike hZ.alike A1.2.1) A1.2.2 (by rw [h1]; exact q1) (by rw [q2]; exact (h3 i hi).1) hg hs hd _ k
theorem rdL (X : Stand p l e R s m args below meth c T locs cells slots) (hx : p.tables.exec = Jvm.exec) (hZ : Z.Warmed39 s.vm) (eT : T.heap = h) (A : Ari Z h a ty n f) {g : JFrame} (hg : g.method = m) {rest : List Value} (hs : g.stack = .ref a :: rest) (hd : decode c.code g.pc = .ok (.arraylength, 1)) :
    ∀ target, Steps p.tables e below (T.setTop { g with pc := g.pc + 1, stack := .int (Int32.ofNat n) :: rest }) target → Steps p.tables e below (T.setTop g) target := by
  obtain ⟨cl, A1, h1, h2, h3⟩ := A
  intro target k
  refine X.arraylength hx (by rw [eT]; exact A1.1) (State.isArrayOf_alike hZ.alike A1.2.1) hg hs hd _ ?_
  rw [h1]
  exact k
/-- calls by a contract that may make and write -/
theorem callX (X : Stand p l e R s m args below meth c T locs cells slots) (hx : p.tables.exec = Jvm.exec) (hZ : Z.Warmed39 s.vm) {own : String} {index : Nat} {y : MethodName} {bytes : ByteArray} {maxL : Nat} {ret : Option FieldType} (hown : s.vm.findClass own = some m.cls)
    (w1 : (Cond.methodLink own index y).before a0 Z = true) (w2 : (Cond.static y).before a0 Z = true) (w3 : (Cond.initialized y.cls).before a0 Z = true) (w4 : (Cond.code y bytes maxL ret).before a0 Z = true) (hy : y.cls ≠ "java/lang/invoke/MethodHandle" ∧ y.cls ≠ "java/lang/invoke/VarHandle")
    {rm : Room} {W : Nat} {argsL rest : List Value} {Q : Option Value → Heap → List Loc → Prop}
    (hM : MetFree l y (head1 [Cond.code y bytes maxL ret] rm) (fun a U => a = argsL.toArray ∧ Z.Warmed39 U.vm ∧ U.heap = h) (fun _ _ _ _ _ => True) (fun _ U o U' => ∃ v L, o = .returned v ∧ Q v U'.heap L ∧ FrameEnd U o U' L rm.cells rm.slots))
    (hf : rm.frames + 1 ≤ R.frames) (hl : W + (maxL + 11) + rm.locals ≤ R.locals) (hc : cells + rm.cells ≤ R.cells) (hs : slots + rm.slots ≤ R.slots) (eT : T.heap = h) {g : JFrame} (hg : g.method = m) (hsize : g.locals.size = c.maxLocals) (hlen : ∀ sig, parseMethodDescriptor y.desc = some sig → argsL.length = sig.parameters.length)
    (hstack : g.stack = argsL.reverse ++ rest) (hW : 2 * g.monitorRoom + (rest.map fun v => v.category).sum ≤ W) (hd : decode c.code g.pc = .ok (.invokestatic index, 3)) :
    ∃ v T' h' L, Stand p l e R s m args below meth c T' (locs ++ L) (cells + rm.cells) (slots + rm.slots) ∧ T'.heap = h' ∧ Q v h' L ∧ ∀ target, Steps p.tables e below (T'.setTop { g with pc := g.pc + 3, stack := v.toList ++ rest }) target → Steps p.tables e below (T.setTop g) target := by
  obtain ⟨v, _, ⟨T18, L18, k18, n18⟩, -, X18, ⟨Lc, hq, l18, y18, z18⟩, st⟩ := Jvm.LawKit.callS X hx hown (mvT hZ w1) (mvT hZ w2) (mvT hZ w3) (mvT hZ w4) hy (backOf (W := W) hM hZ w4 w3 hf hl) hg hsize hlen hstack hW hd (fun _ _ => ⟨rfl, eT, hc, hs⟩)
  dsimp only [Pt.U, Pt.locs, Pt.cells, Pt.slots] at X18 l18 y18 z18 st hq
  subst l18 y18 z18
  exact ⟨v, T18, _, Lc, X18, rfl, hq, st⟩
theorem callXV (X : Stand p l e R s m args below meth c T locs cells slots) (hx : p.tables.exec = Jvm.exec) (hZ : Z.Warmed39 s.vm) {own C : String} {index : Nat} {y z : MethodName} {bytes : ByteArray} {maxL : Nat} {ret : Option FieldType} (hown : s.vm.findClass own = some m.cls)
    (w1 : (Cond.methodLink own index y).before a0 Z = true) (w2 : (Cond.declares y).before a0 Z = true) (w3 : (Cond.selects C y z).before a0 Z = true) (w4 : (Cond.instanceMethod z).before a0 Z = true) (w5 : (Cond.code z bytes maxL ret).before a0 Z = true) (w6 : (Cond.initialized z.cls).before a0 Z = true) (hnf : NotFace s y) (hy : y.cls ≠ "java/lang/invoke/MethodHandle" ∧ y.cls ≠ "java/lang/invoke/VarHandle")
    {rm : Room} {W : Nat} {argsL rest : List Value} {Q : Option Value → Heap → List Loc → Prop}
    (hM : MetFree l z (head1 [Cond.code z bytes maxL ret] rm) (fun a U => a = (.ref b :: argsL).toArray ∧ Z.Warmed39 U.vm ∧ U.heap = h) (fun _ _ _ _ _ => True) (fun _ U o U' => ∃ v L, o = .returned v ∧ Q v U'.heap L ∧ FrameEnd U o U' L rm.cells rm.slots))
    (hf : rm.frames + 1 ≤ R.frames) (hl : W + (maxL + 11) + rm.locals ≤ R.locals) (hc : cells + rm.cells ≤ R.cells) (hs : slots + rm.slots ≤ R.slots) (eT : T.heap = h) (E : Exa Z h b C) {g : JFrame} (hg : g.method = m) (hsize : g.locals.size = c.maxLocals) (hlen : ∀ sig, parseMethodDescriptor y.desc = some sig → argsL.length = sig.parameters.length)
    (hstack : g.stack = argsL.reverse ++ .ref b :: rest) (hW : 2 * g.monitorRoom + (rest.map fun v => v.category).sum ≤ W) (hd : decode c.code g.pc = .ok (.invokevirtual index, 3)) :
    ∃ v T' h' L, Stand p l e R s m args below meth c T' (locs ++ L) (cells + rm.cells) (slots + rm.slots) ∧ T'.heap = h' ∧ Q v h' L ∧ ∀ target, Steps p.tables e below (T'.setTop { g with pc := g.pc + 3, stack := v.toList ++ rest }) target → Steps p.tables e below (T.setTop g) target := by
  obtain ⟨cq, kq, qa, qb, qc⟩ := isOf hZ eT E
  obtain ⟨v, _, ⟨T18, L18, k18, n18⟩, -, X18, ⟨Lc, hq, l18, y18, z18⟩, st⟩ := X.virtualBack hx hown (mvT hZ w1) (mvT hZ w2) hnf (mvT hZ w3) (mvT hZ w4) hy (backOf (W := W) hM hZ w5 w6 hf hl) qa qc hg hsize (Steps.refl _) hlen hstack hW hd (fun _ _ => ⟨rfl, eT, hc, hs⟩)
  dsimp only [Pt.U, Pt.locs, Pt.cells, Pt.slots] at X18 l18 y18 z18 st hq
  subst l18 y18 z18
  exact ⟨v, T18, _, Lc, X18, rfl, hq, fun _ k => st.trans k⟩
theorem callXP (X : Stand p l e R s m args below meth c T locs cells slots) (hx : p.tables.exec = Jvm.exec) (hZ : Z.Warmed39 s.vm) {own C : String} {index ki : Nat} {y : MethodName} {bytes : ByteArray} {maxL : Nat} {ret : Option FieldType} (hown : s.vm.findClass own = some m.cls)
    (w1 : (Cond.methodLink own index y).before a0 Z = true) (w4 : (Cond.instanceMethod y).before a0 Z = true) (wp : (Cond.privateMethod y).before a0 Z = true) (wi : (Cond.instantiable y.cls ki).before a0 Z = true) (w5 : (Cond.code y bytes maxL ret).before a0 Z = true) (w6 : (Cond.initialized y.cls).before a0 Z = true) (hy : y.cls ≠ "java/lang/invoke/MethodHandle" ∧ y.cls ≠ "java/lang/invoke/VarHandle")
    {rm : Room} {W : Nat} {argsL rest : List Value} {Q : Option Value → Heap → List Loc → Prop}
    (hM : MetFree l y (head1 [Cond.code y bytes maxL ret] rm) (fun a U => a = (.ref b :: argsL).toArray ∧ Z.Warmed39 U.vm ∧ U.heap = h) (fun _ _ _ _ _ => True) (fun _ U o U' => ∃ v L, o = .returned v ∧ Q v U'.heap L ∧ FrameEnd U o U' L rm.cells rm.slots))
    (hf : rm.frames + 1 ≤ R.frames) (hl : W + (maxL + 11) + rm.locals ≤ R.locals) (hc : cells + rm.cells ≤ R.cells) (hs : slots + rm.slots ≤ R.slots) (eT : T.heap = h) (E : Exa Z h b C) {g : JFrame} (hg : g.method = m) (hsize : g.locals.size = c.maxLocals) (hlen : ∀ sig, parseMethodDescriptor y.desc = some sig → argsL.length = sig.parameters.length)
    (hstack : g.stack = argsL.reverse ++ .ref b :: rest) (hW : 2 * g.monitorRoom + (rest.map fun v => v.category).sum ≤ W) (hd : decode c.code g.pc = .ok (.invokevirtual index, 3)) :
    ∃ v T' h' L, Stand p l e R s m args below meth c T' (locs ++ L) (cells + rm.cells) (slots + rm.slots) ∧ T'.heap = h' ∧ Q v h' L ∧ ∀ target, Steps p.tables e below (T'.setTop { g with pc := g.pc + 3, stack := v.toList ++ rest }) target → Steps p.tables e below (T.setTop g) target := by
  have hp : s.PrivateAt y := Cond.privateMethod_at (mvP hZ wp (args := #[]))
  obtain ⟨cc, kk, hcc, hkk, -, hni, -, -⟩ := Cond.instantiable_spec (args := #[]) (mvT hZ wi)
  have hsel : (Cond.selects y.cls y y).before args s = true := selects_self_of_private hcc hkk (Bool.or_eq_false_iff.mp hni).1 hp (mvT hZ w4) hy
  obtain ⟨cq, q3, q3'⟩ := E.cell
  obtain ⟨v, _, ⟨T18, L18, k18, n18⟩, -, X18, ⟨Lc, hq, l18, y18, z18⟩, st⟩ := X.privateBack hx hown (mvT hZ w1) (mvT hZ w4) hsel hp (mvT hZ w5) hy (backOf (W := W) hM hZ w5 w6 hf hl) hg hsize (Steps.refl _) (a := b) (by rw [eT]; exact q3) q3' hlen hstack hW hd (fun _ _ => ⟨rfl, eT, hc, hs⟩)
  dsimp only [Pt.U, Pt.locs, Pt.cells, Pt.slots] at X18 l18 y18 z18 st hq
  subst l18 y18 z18
  exact ⟨v, T18, _, Lc, X18, rfl, hq, fun _ k => st.trans k⟩
theorem callXI (X : Stand p l e R s m args below meth c T locs cells slots) (hx : p.tables.exec = Jvm.exec) (hZ : Z.Warmed39 s.vm) {own : String} {index : Nat} {y : MethodName} {bytes : ByteArray} {maxL : Nat} (hown : s.vm.findClass own = some m.cls) (hy1 : y.name = "<init>")
    (w1 : (Cond.methodLink own index y).before a0 Z = true) (w4 : (Cond.instanceMethod y).before a0 Z = true) (w5 : (Cond.code y bytes maxL none).before a0 Z = true) (w6 : (Cond.initialized y.cls).before a0 Z = true) (hy : y.cls ≠ "java/lang/invoke/MethodHandle" ∧ y.cls ≠ "java/lang/invoke/VarHandle")
    {rm : Room} {W : Nat} {argsL rest : List Value} {Q : Option Value → Heap → List Loc → Prop}
    (hM : MetFree l y (head1 [Cond.code y bytes maxL none] rm) (fun a U => a = (.ref b :: argsL).toArray ∧ Z.Warmed39 U.vm ∧ U.heap = h) (fun _ _ _ _ _ => True) (fun _ U o U' => ∃ v L, o = .returned v ∧ Q v U'.heap L ∧ FrameEnd U o U' L rm.cells rm.slots))
    (hf : rm.frames + 1 ≤ R.frames) (hl : W + (maxL + 11) + rm.locals ≤ R.locals) (hc : cells + rm.cells ≤ R.cells) (hs : slots + rm.slots ≤ R.slots) (eT : T.heap = h) {g : JFrame} (hg : g.method = m) (hsize : g.locals.size = c.maxLocals) (hlen : ∀ sig, parseMethodDescriptor y.desc = some sig → argsL.length = sig.parameters.length)
    (hstack : g.stack = argsL.reverse ++ .ref b :: rest) (hW : 2 * g.monitorRoom + (rest.map fun v => v.category).sum ≤ W) (hd : decode c.code g.pc = .ok (.invokespecial index, 3)) :
    ∃ v T' h' L, Stand p l e R s m args below meth c T' (locs ++ L) (cells + rm.cells) (slots + rm.slots) ∧ T'.heap = h' ∧ Q v h' L ∧ ∀ target, Steps p.tables e below (T'.setTop { g with pc := g.pc + 3, stack := v.toList ++ rest }) target → Steps p.tables e below (T.setTop g) target := by
  obtain ⟨v, _, ⟨T18, L18, k18, n18⟩, -, X18, ⟨Lc, hq, l18, y18, z18⟩, st⟩ := X.specialBack hx hy1 hown (mvT hZ w1) (mvT hZ w4) (mvT hZ w5) hy (backOf (W := W) hM hZ w5 w6 hf hl) hg hsize (Steps.refl _) hlen hstack hW hd (fun _ _ => ⟨rfl, eT, hc, hs⟩)
  dsimp only [Pt.U, Pt.locs, Pt.cells, Pt.slots] at X18 l18 y18 z18 st hq
  subst l18 y18 z18
  exact ⟨v, T18, _, Lc, X18, rfl, hq, fun _ k => st.trans k⟩
/-- arrays as lists, for System.arraycopy -/
theorem Ari.arv (F : Ari Z h a ty n f) : ∃ k, Arv Z h a k ty (Int32.ofNat n) ((List.range n).map fun j => Value.int (f j)) (.int 0) := by
  obtain ⟨cl, A, h1, h2, h3⟩ := F
  have ez : (Int32.ofNat n).toInt = n := Int32.toInt_ofNat_of_lt h2
  have h0 : ¬ Int32.ofNat n < 0 := by rw [Int32.lt_iff_toInt_lt, ez]; have : (0 : Int32).toInt = 0 := rfl; omega
  have hk : (Int32.ofNat n).toNatClampNeg = n := by have := nat_of h0; omega
  have q : ∀ i, i < n → ((List.range n).map fun j => Value.int (f j)).getD i (.int 0) = .int (f i) := fun i hi => by simp [List.getD_eq_getElem?_getD, hi]
  exact ⟨cl.cls, cl, A, rfl, by rw [hk]; exact h1, h0, fun i hi => by rw [q i (h1 ▸ hi)]; exact (h3 i (h1 ▸ hi)).1, fun i hi => by rw [q i (h1 ▸ hi)]; exact (h3 i (h1 ▸ hi)).2⟩
theorem Ari.of_arv {k : ClassId} {vs : List Value} {d : Value} {g : Nat → Int32} (F : Arv Z h a k ty (Int32.ofNat n) vs d) (hn : n < 2 ^ 31) (q : ∀ j, j < n → vs.getD j d = .int (g j)) : Ari Z h a ty n g := by
  obtain ⟨cl, A, -, h1, h0, H, G⟩ := F
  have ez : (Int32.ofNat n).toInt = n := Int32.toInt_ofNat_of_lt hn
  have hk : (Int32.ofNat n).toNatClampNeg = n := by have := nat_of h0; omega
  rw [hk] at h1
  exact ⟨cl, A, h1, hn, fun j hj => by rw [← q j hj]; exact ⟨H j (h1 ▸ hj), G j (h1 ▸ hj)⟩⟩
def blit (f g : Nat → Int32) (sp dp k : Nat) : Nat → Int32 := fun j => if dp ≤ j ∧ j < dp + k then f (sp + (j - dp)) else g j
theorem own_blit (f g : Nat → Int32) (n N sp dp k : Nat) (h1 : sp + k ≤ n) (h2 : dp + k ≤ N) (j : Nat) (hj : j < N) :
    (((List.range N).map fun j => Value.int (g j)).take dp ++ ((List.range k).map fun i => ((List.range n).map fun j => Value.int (f j)).getD (sp + i) (.int 0)) ++ ((List.range N).map fun j => Value.int (g j)).drop (dp + k)).getD j (.int 0) = .int (blit f g sp dp k j) := by
  simp only [blit, List.getD_eq_getElem?_getD]
  by_cases q1 : j < dp
  · have e : ¬ (dp ≤ j ∧ j < dp + k) := by omega
    rw [if_neg e, List.append_assoc, List.getElem?_append_left (by simp; omega)]
    simp [List.getElem?_take, q1, hj]
  · by_cases q2 : j < dp + k
    · rw [if_pos ⟨by omega, q2⟩, List.append_assoc, List.getElem?_append_right (by simp; omega), List.getElem?_append_left (by simp; omega)]
      have e1 : min dp N = dp := by omega
      have e2 : j - dp < k := by omega
      have e3 : sp + (j - dp) < n := by omega
      simp [e1, e2, e3]
    · have e : ¬ (dp ≤ j ∧ j < dp + k) := by omega
      rw [if_neg e, List.append_assoc, List.getElem?_append_right (by simp; omega), List.getElem?_append_right (by simp; omega)]
      have e1 : min dp N = dp := by omega
      have e2 : dp + k + (j - dp - k) = j := by omega
      simp [e1, e2, hj]
theorem copyI (X : Stand p l e R s m args below meth c T locs cells slots) (hx : p.tables.exec = Jvm.exec) (hZ : Z.Warmed39 s.vm) {own : String} {index : Nat} (hown : s.vm.findClass own = some m.cls)
    (w1 : (Cond.methodLink own index Jvm.Stand.acN).before a0 Z = true) (w2 : (Cond.native Jvm.Stand.acN).before a0 Z = true) (w3 : (Cond.static Jvm.Stand.acN).before a0 Z = true) (w4 : (Cond.initialized "java/lang/System").before a0 Z = true) (eT : T.heap = h)
    {N sp dp k : Nat} {g' : Nat → Int32} {zs zd zk : Int32} (A : Ari Z h a ty n f) (B : Ari Z h b ty N g') (hty : refKind ty = false) (es : zs = Int32.ofNat sp) (ed : zd = Int32.ofNat dp) (ek : zk = Int32.ofNat k) (h1 : sp + k ≤ n) (h2 : dp + k ≤ N) {n0 : Nat} (NF : Fr n0 locs) (ge : n0 ≤ b)
    {g : JFrame} (hg : g.method = m) (hsize : g.locals.size = c.maxLocals) {rest : List Value} (hs : g.stack = .int zk :: .int zd :: .ref b :: .int zs :: .ref a :: rest) (hd : decode c.code g.pc = .ok (.invokestatic index, 3))
    (hf : 1 ≤ R.frames) {W : Nat} (hW : 2 * g.monitorRoom + (rest.map fun v => v.category).sum ≤ W) (hlo : W + (nativeFrameWords "java/lang/System" "arraycopy" 5 + 11) ≤ R.locals) :
    ∃ T' h' L, Stand p l e R s m args below meth c T' L cells slots ∧ T'.heap = h' ∧ Fr n0 L ∧ Keep h h' [b] ∧ Ari Z h' b ty N (blit f g' sp dp k) ∧
      ∀ target, Steps p.tables e below (T'.setTop { g with pc := g.pc + 3, stack := rest }) target → Steps p.tables e below (T.setTop g) target := by
  have hn : n < 2 ^ 31 := by obtain ⟨_, _, _, q, _⟩ := A; exact q
  have hN : N < 2 ^ 31 := by obtain ⟨_, _, _, q, _⟩ := B; exact q
  have nz : ∀ {z : Int32} {i : Nat}, z = Int32.ofNat i → i < 2 ^ 31 → ¬ z < 0 ∧ z.toNatClampNeg = i := fun {z i} e hi => by
    have ez : z.toInt = i := by rw [e]; exact Int32.toInt_ofNat_of_lt hi
    have h0 : ¬ z < 0 := by rw [Int32.lt_iff_toInt_lt, ez]; have : (0 : Int32).toInt = 0 := rfl; omega
    exact ⟨h0, by have := nat_of h0; omega⟩
  obtain ⟨ka, VA⟩ := A.arv
  obtain ⟨kb, VB⟩ := B.arv
  obtain ⟨s1, s2⟩ := nz es (by omega)
  obtain ⟨d1, d2⟩ := nz ed (by omega)
  obtain ⟨k1, k2⟩ := nz ek (by omega)
  have n2 := (nz (rfl : Int32.ofNat n = Int32.ofNat n) hn).2
  have N2 := (nz (rfl : Int32.ofNat N = Int32.ofNat N) hN).2
  obtain ⟨T', h', L, X', e', F', K', V', st⟩ := cpA X hx hZ hown w1 w2 w3 w4 eT (sp := zs) (dp := zd) (nn := zk) VA VB (Or.inl ⟨rfl, hty⟩) s1 d1 k1 (by rw [s2, k2, n2]; exact h1) (by rw [d2, k2, N2]; exact h2) rfl (by rw [d2, k2]; simp; exact h2) NF ge hg hsize hs hd hf hW hlo
  refine ⟨T', h', L, X', e', F', K', Ari.of_arv V' hN fun j hj => ?_, st⟩
  rw [s2, d2, k2]
  exact own_blit f g' n N sp dp k h1 h2 j hj
/-- a class of objects that isn't a subclass of another one -/
theorem own_noinst {C S K : String} {ki : Nat} (w : (Cond.superclass C S).before a0 Z = true) (wr : (Cond.noSuperclass S).before a0 Z = true) (wi : (Cond.instantiable K ki).before a0 Z = true) (h1 : S ≠ K) (h2 : C ≠ K) : ∃ c t, Z.vm.findClass C = some c ∧ Z.vm.findClass K = some t ∧ Z.vm.assignable c t = false := by
  obtain ⟨t, kt, g1, g2, g3, g4, -⟩ := Cond.instantiable_spec wi
  have root : NS Z S K := by
    obtain ⟨c, k, q1, q2, q3, -, -⟩ := Cond.noSuperclass_spec wr
    have ne := ids_ne q1 g1 h1
    refine ⟨c, t, q1, g1, fun fuel => ?_⟩
    cases fuel with
    | zero => rfl
    | succ f => simp [Vm.isSubclassAux, ne, q2, q3]
  obtain ⟨c, t', h0, g0, n3⟩ := NS.step w root h2
  cases g1.symm.trans g0
  obtain ⟨p, k, kp, r1, r2, r3, r4, r5, -, r7⟩ := Cond.superclass_spec h0 w
  have ne := ids_ne h0 g1 h2
  refine ⟨c, t, h0, g1, ?_⟩
  show Z.vm.assignableAux (255 + 1) c t = false
  have gi := (Bool.or_eq_false_iff.mp g4).1
  simp [Vm.assignableAux, ne, r2, g2, r5, g3, gi, Vm.isSubclass, n3]
end OwnHeap
end Jvm.RoadKit
namespace Jvm.Pilot.@@N@@
open Jvm Jvm.ClassFile Sem Op Lib Jvm.Free Jvm.Stand Jvm.LawKit Jvm.RoadKit Bundle Jvm.Pilot.@@N@@.Jvm.D
theorem d2_0 : decode method_3_code 0 = .ok (.iload_n 0, 1) := by decide +kernel
theorem d2_1 : decode method_3_code 1 = .ok (.ifCond .lt 9, 3) := by decide +kernel
theorem d2_4 : decode method_3_code 4 = .ok (.iload_n 0, 1) := by decide +kernel
theorem d2_5 : decode method_3_code 5 = .ok (.iconst 3, 1) := by decide +kernel
theorem d2_6 : decode method_3_code 6 = .ok (.irem, 1) := by decide +kernel
theorem d2_7 : decode method_3_code 7 = .ok (.goto 4, 3) := by decide +kernel
theorem d2_10 : decode method_3_code 10 = .ok (.iload_n 0, 1) := by decide +kernel
theorem d2_11 : decode method_3_code 11 = .ok (.ireturn, 1) := by decide +kernel
theorem pn_2 : plainName "com/example/decompose/decompose/engine/BinderSubstitutePinLaw" = true := by first | (simp [plainName, overriddenIn]; done) | decide +kernel
theorem ef_2 (m : MethodId) (p1 : Int32) : entryFrame m #[(.int p1)] 1 = mkF m 0 #[.val (.int p1)] [] := by first | (simp [entryFrame, mkF, argsToLocals, Value.category]; done) | rfl
def f2 (p1 : Int32) : Int32 := (if (p1 < (0 : Int32)) then p1 else (p1 % (3 : Int32)))
set_option maxRecDepth 65536 in
set_option maxHeartbeats 40000000 in
theorem rm2 (l : Launch) (Z : State) (a0 : Array Value) (hw : ∀ d ∈ tables_1, d.before a0 Z = true) (ws : List Jvm.Cond) (p1 : Int32) (h0 : Heap)  :
    MetFree l (⟨"com/example/decompose/decompose/engine/BinderSubstitutePinLaw", "code", "(I)I"⟩ : MethodName) (head1 (Jvm.Cond.code (⟨"com/example/decompose/decompose/engine/BinderSubstitutePinLaw", "code", "(I)I"⟩ : MethodName) method_3_code 1 (some .int) :: ws) ({ frames := 0, cells := 0, slots := 0, locals := 0 } : Room)) (fun a U => a = #[(.int p1)] ∧ Z.Warmed39 U.vm ∧ U.heap = h0) (fun _ _ _ _ _ => True) (fun _ U o U' => ∃ v L, o = .returned v ∧ PI h0 (f2 p1) v U'.heap L ∧ FrameEnd U o U' L ({ frames := 0, cells := 0, slots := 0, locals := 0 } : Room).cells ({ frames := 0, cells := 0, slots := 0, locals := 0 } : Room).slots) := by
  refine MetFree.of_bodySF (plainFor_of_name pn_2) hisR ?_
  intro p e s m args below meth c s₁ Bd hml0 hP hK
  obtain ⟨rfl, hZ, hh⟩ := hP
  have hx := Bd.exec
  have hby := Bd.bytes
  have hlk := Bd.notSynchronized
  have hml : c.maxLocals = 1 := hml0
  have hown : s.vm.findClass "com/example/decompose/decompose/engine/BinderSubstitutePinLaw" = some m.cls := findClass_of_methodNamed Bd.named
  have X0 : Stand p l e ({ frames := 0, cells := 0, slots := 0, locals := 0 } : Room) s m #[(.int p1)] below meth c s₁ [] 0 0 := Stand.of_body Bd
  have e0 : s₁.heap = h0 := by rw [← hh, Bd.state]; rfl
  show Goes p e below s ({ frames := 0, cells := 0, slots := 0, locals := 0 } : Room).cells ({ frames := 0, cells := 0, slots := 0, locals := 0 } : Room).slots (PI h0 (f2 p1)) s₁ (entryFrame m #[(.int p1)] 1)
  refine Goes.step (fun t k => castTop (ef_2 m p1) k) ?_
  refine Goes.step (fun _ k => XS.iloadN X0.here hx rfl (hb hby d2_0) rfl k) ?_
  show Goes p e below s _ _ _ s₁ (mkF m 1 #[.val (.int p1)] [(.int p1)])
  refine Goes.ite (Q := PI h0) (fun hc1 => ?_) (fun hc1 => ?_)
  · refine Goes.step (fun _ k => XS.ifYes X0.here hx rfl (pc0 := 1) (pc' := 10) rfl (hb hby d2_1) rfl ((if0 _ _).trans (tlt hc1).1) (by decide) (by decide) k) ?_
    show Goes p e below s _ _ _ s₁ (mkF m 10 #[.val (.int p1)] [])
    refine Goes.step (fun _ k => XS.iloadN X0.here hx rfl (hb hby d2_10) rfl k) ?_
    show Goes p e below s _ _ _ s₁ (mkF m 11 #[.val (.int p1)] [(.int p1)])
    exact Goes.outI X0 hx hlk Bd.returns (hb hby d2_11) ⟨rfl, rfl, e0⟩ (by decide) (by decide)
  · refine Goes.step (fun _ k => XS.ifNo X0.here hx rfl (hb hby d2_1) rfl ((if0 _ _).trans (flt hc1).1) k) ?_
    show Goes p e below s _ _ _ s₁ (mkF m 4 #[.val (.int p1)] [])
    refine Goes.step (fun _ k => XS.iloadN X0.here hx rfl (hb hby d2_4) rfl k) ?_
    show Goes p e below s _ _ _ s₁ (mkF m 5 #[.val (.int p1)] [(.int p1)])
    refine Goes.step (fun _ k => XS.iconst X0.here hx rfl (hb hby d2_5) k) ?_
    show Goes p e below s _ _ _ s₁ (mkF m 6 #[.val (.int p1)] [(.int (3 : Int32)), (.int p1)])
    refine Goes.step (fun _ k => iremM X0 hx rfl (hb hby d2_6) rfl (by decide) k) ?_
    show Goes p e below s _ _ _ s₁ (mkF m 7 #[.val (.int p1)] [(.int (p1 % (3 : Int32)))])
    refine Goes.step (fun _ k => XS.goto X0.here hx rfl (pc0 := 7) (pc' := 11) rfl (hb hby d2_7) (by decide) (by decide) k) ?_
    show Goes p e below s _ _ _ s₁ (mkF m 11 #[.val (.int p1)] [(.int (p1 % (3 : Int32)))])
    exact Goes.outI X0 hx hlk Bd.returns (hb hby d2_11) ⟨rfl, rfl, e0⟩ (by decide) (by decide)
theorem d3_0 : decode method_4_code 0 = .ok (.iload_n 0, 1) := by decide +kernel
theorem d3_1 : decode method_4_code 1 = .ok (.ifCond .ge 8, 3) := by decide +kernel
theorem d3_4 : decode method_4_code 4 = .ok (.iload_n 0, 1) := by decide +kernel
theorem d3_5 : decode method_4_code 5 = .ok (.ineg, 1) := by decide +kernel
theorem d3_6 : decode method_4_code 6 = .ok (.iconst 1, 1) := by decide +kernel
theorem d3_7 : decode method_4_code 7 = .ok (.isub, 1) := by decide +kernel
theorem d3_8 : decode method_4_code 8 = .ok (.ireturn, 1) := by decide +kernel
theorem d3_9 : decode method_4_code 9 = .ok (.iload_n 0, 1) := by decide +kernel
theorem d3_10 : decode method_4_code 10 = .ok (.iconst 3, 1) := by decide +kernel
theorem d3_11 : decode method_4_code 11 = .ok (.irem, 1) := by decide +kernel
theorem d3_12 : decode method_4_code 12 = .ok (.istore 4, 2) := by decide +kernel
theorem d3_14 : decode method_4_code 14 = .ok (.iload 4, 2) := by decide +kernel
theorem d3_16 : decode method_4_code 16 = .ok (.ifCond .ne 5, 3) := by decide +kernel
theorem d3_19 : decode method_4_code 19 = .ok (.iload_n 1, 1) := by decide +kernel
theorem d3_20 : decode method_4_code 20 = .ok (.ireturn, 1) := by decide +kernel
theorem d3_21 : decode method_4_code 21 = .ok (.iload 4, 2) := by decide +kernel
theorem d3_23 : decode method_4_code 23 = .ok (.iconst 1, 1) := by decide +kernel
theorem d3_24 : decode method_4_code 24 = .ok (.if_icmp .ne 5, 3) := by decide +kernel
theorem d3_27 : decode method_4_code 27 = .ok (.iload_n 2, 1) := by decide +kernel
theorem d3_28 : decode method_4_code 28 = .ok (.ireturn, 1) := by decide +kernel
theorem d3_29 : decode method_4_code 29 = .ok (.iload_n 3, 1) := by decide +kernel
theorem d3_30 : decode method_4_code 30 = .ok (.ireturn, 1) := by decide +kernel
theorem pn_3 : plainName "com/example/decompose/decompose/engine/BinderSubstitutePinLaw" = true := by first | (simp [plainName, overriddenIn]; done) | decide +kernel
theorem ef_3 (m : MethodId) (p1 : Int32) (p2 : Int32) (p3 : Int32) (p4 : Int32) : entryFrame m #[(.int p1), (.int p2), (.int p3), (.int p4)] 5 = mkF m 0 #[.val (.int p1), .val (.int p2), .val (.int p3), .val (.int p4), .unset] [] := by first | (simp [entryFrame, mkF, argsToLocals, Value.category]; done) | rfl
def f3 (p1 : Int32) (p2 : Int32) (p3 : Int32) (p4 : Int32) : Int32 := (if (p1 < (0 : Int32)) then ((-p1) - (1 : Int32)) else (if ((p1 % (3 : Int32)) = (0 : Int32)) then p2 else (if ((p1 % (3 : Int32)) = (1 : Int32)) then p3 else p4)))
set_option maxRecDepth 65536 in
set_option maxHeartbeats 40000000 in
theorem rm3 (l : Launch) (Z : State) (a0 : Array Value) (hw : ∀ d ∈ tables_1, d.before a0 Z = true) (ws : List Jvm.Cond) (p1 : Int32) (p2 : Int32) (p3 : Int32) (p4 : Int32) (h0 : Heap)  :
    MetFree l (⟨"com/example/decompose/decompose/engine/BinderSubstitutePinLaw", "expect", "(IIII)I"⟩ : MethodName) (head1 (Jvm.Cond.code (⟨"com/example/decompose/decompose/engine/BinderSubstitutePinLaw", "expect", "(IIII)I"⟩ : MethodName) method_4_code 5 (some .int) :: ws) ({ frames := 0, cells := 0, slots := 0, locals := 0 } : Room)) (fun a U => a = #[(.int p1), (.int p2), (.int p3), (.int p4)] ∧ Z.Warmed39 U.vm ∧ U.heap = h0) (fun _ _ _ _ _ => True) (fun _ U o U' => ∃ v L, o = .returned v ∧ PI h0 (f3 p1 p2 p3 p4) v U'.heap L ∧ FrameEnd U o U' L ({ frames := 0, cells := 0, slots := 0, locals := 0 } : Room).cells ({ frames := 0, cells := 0, slots := 0, locals := 0 } : Room).slots) := by
  refine MetFree.of_bodySF (plainFor_of_name pn_3) hisR ?_
  intro p e s m args below meth c s₁ Bd hml0 hP hK
  obtain ⟨rfl, hZ, hh⟩ := hP
  have hx := Bd.exec
  have hby := Bd.bytes
  have hlk := Bd.notSynchronized
  have hml : c.maxLocals = 5 := hml0
  have hown : s.vm.findClass "com/example/decompose/decompose/engine/BinderSubstitutePinLaw" = some m.cls := findClass_of_methodNamed Bd.named
  have X0 : Stand p l e ({ frames := 0, cells := 0, slots := 0, locals := 0 } : Room) s m #[(.int p1), (.int p2), (.int p3), (.int p4)] below meth c s₁ [] 0 0 := Stand.of_body Bd
  have e0 : s₁.heap = h0 := by rw [← hh, Bd.state]; rfl
  show Goes p e below s ({ frames := 0, cells := 0, slots := 0, locals := 0 } : Room).cells ({ frames := 0, cells := 0, slots := 0, locals := 0 } : Room).slots (PI h0 (f3 p1 p2 p3 p4)) s₁ (entryFrame m #[(.int p1), (.int p2), (.int p3), (.int p4)] 5)
  refine Goes.step (fun t k => castTop (ef_3 m p1 p2 p3 p4) k) ?_
  refine Goes.step (fun _ k => XS.iloadN X0.here hx rfl (hb hby d3_0) rfl k) ?_
  show Goes p e below s _ _ _ s₁ (mkF m 1 #[.val (.int p1), .val (.int p2), .val (.int p3), .val (.int p4), .unset] [(.int p1)])
  refine Goes.ite (Q := PI h0) (fun hc1 => ?_) (fun hc1 => ?_)
  · refine Goes.step (fun _ k => XS.ifNo X0.here hx rfl (hb hby d3_1) rfl ((if0 _ _).trans (tlt hc1).2.1) k) ?_
    show Goes p e below s _ _ _ s₁ (mkF m 4 #[.val (.int p1), .val (.int p2), .val (.int p3), .val (.int p4), .unset] [])
    refine Goes.step (fun _ k => XS.iloadN X0.here hx rfl (hb hby d3_4) rfl k) ?_
    show Goes p e below s _ _ _ s₁ (mkF m 5 #[.val (.int p1), .val (.int p2), .val (.int p3), .val (.int p4), .unset] [(.int p1)])
    refine Goes.step (fun _ k => XS.ineg X0.here hx rfl (hb hby d3_5) rfl k) ?_
    show Goes p e below s _ _ _ s₁ (mkF m 6 #[.val (.int p1), .val (.int p2), .val (.int p3), .val (.int p4), .unset] [(.int (-p1))])
    refine Goes.step (fun _ k => XS.iconst X0.here hx rfl (hb hby d3_6) k) ?_
    show Goes p e below s _ _ _ s₁ (mkF m 7 #[.val (.int p1), .val (.int p2), .val (.int p3), .val (.int p4), .unset] [(.int (1 : Int32)), (.int (-p1))])
    refine Goes.step (fun _ k => XS.isub X0.here hx rfl (hb hby d3_7) rfl k) ?_
    show Goes p e below s _ _ _ s₁ (mkF m 8 #[.val (.int p1), .val (.int p2), .val (.int p3), .val (.int p4), .unset] [(.int ((-p1) - (1 : Int32)))])
    exact Goes.outI X0 hx hlk Bd.returns (hb hby d3_8) ⟨rfl, rfl, e0⟩ (by decide) (by decide)
  · refine Goes.step (fun _ k => XS.ifYes X0.here hx rfl (pc0 := 1) (pc' := 9) rfl (hb hby d3_1) rfl ((if0 _ _).trans (flt hc1).2.1) (by decide) (by decide) k) ?_
    show Goes p e below s _ _ _ s₁ (mkF m 9 #[.val (.int p1), .val (.int p2), .val (.int p3), .val (.int p4), .unset] [])
    refine Goes.step (fun _ k => XS.iloadN X0.here hx rfl (hb hby d3_9) rfl k) ?_
    show Goes p e below s _ _ _ s₁ (mkF m 10 #[.val (.int p1), .val (.int p2), .val (.int p3), .val (.int p4), .unset] [(.int p1)])
    refine Goes.step (fun _ k => XS.iconst X0.here hx rfl (hb hby d3_10) k) ?_
    show Goes p e below s _ _ _ s₁ (mkF m 11 #[.val (.int p1), .val (.int p2), .val (.int p3), .val (.int p4), .unset] [(.int (3 : Int32)), (.int p1)])
    refine Goes.step (fun _ k => iremM X0 hx rfl (hb hby d3_11) rfl (by decide) k) ?_
    show Goes p e below s _ _ _ s₁ (mkF m 12 #[.val (.int p1), .val (.int p2), .val (.int p3), .val (.int p4), .unset] [(.int (p1 % (3 : Int32)))])
    refine Goes.step (fun _ k => XS.istore X0.here hx rfl (hb hby d3_12) rfl (l' := #[.val (.int p1), .val (.int p2), .val (.int p3), .val (.int p4), .val (.int (p1 % (3 : Int32)))]) rfl k) ?_
    show Goes p e below s _ _ _ s₁ (mkF m 14 #[.val (.int p1), .val (.int p2), .val (.int p3), .val (.int p4), .val (.int (p1 % (3 : Int32)))] [])
    refine Goes.step (fun _ k => XS.iload X0.here hx rfl (hb hby d3_14) rfl k) ?_
    show Goes p e below s _ _ _ s₁ (mkF m 16 #[.val (.int p1), .val (.int p2), .val (.int p3), .val (.int p4), .val (.int (p1 % (3 : Int32)))] [(.int (p1 % (3 : Int32)))])
    refine Goes.ite (Q := PI h0) (fun hc16 => ?_) (fun hc16 => ?_)
    · refine Goes.step (fun _ k => XS.ifNo X0.here hx rfl (hb hby d3_16) rfl ((if0 _ _).trans (teq hc16).2) k) ?_
      show Goes p e below s _ _ _ s₁ (mkF m 19 #[.val (.int p1), .val (.int p2), .val (.int p3), .val (.int p4), .val (.int (p1 % (3 : Int32)))] [])
      refine Goes.step (fun _ k => XS.iloadN X0.here hx rfl (hb hby d3_19) rfl k) ?_
      show Goes p e below s _ _ _ s₁ (mkF m 20 #[.val (.int p1), .val (.int p2), .val (.int p3), .val (.int p4), .val (.int (p1 % (3 : Int32)))] [(.int p2)])
      exact Goes.outI X0 hx hlk Bd.returns (hb hby d3_20) ⟨rfl, rfl, e0⟩ (by decide) (by decide)
    · refine Goes.step (fun _ k => XS.ifYes X0.here hx rfl (pc0 := 16) (pc' := 21) rfl (hb hby d3_16) rfl ((if0 _ _).trans (feq hc16).2) (by decide) (by decide) k) ?_
      show Goes p e below s _ _ _ s₁ (mkF m 21 #[.val (.int p1), .val (.int p2), .val (.int p3), .val (.int p4), .val (.int (p1 % (3 : Int32)))] [])
      refine Goes.step (fun _ k => XS.iload X0.here hx rfl (hb hby d3_21) rfl k) ?_
      show Goes p e below s _ _ _ s₁ (mkF m 23 #[.val (.int p1), .val (.int p2), .val (.int p3), .val (.int p4), .val (.int (p1 % (3 : Int32)))] [(.int (p1 % (3 : Int32)))])
      refine Goes.step (fun _ k => XS.iconst X0.here hx rfl (hb hby d3_23) k) ?_
      show Goes p e below s _ _ _ s₁ (mkF m 24 #[.val (.int p1), .val (.int p2), .val (.int p3), .val (.int p4), .val (.int (p1 % (3 : Int32)))] [(.int (1 : Int32)), (.int (p1 % (3 : Int32)))])
      refine Goes.ite (Q := PI h0) (fun hc24 => ?_) (fun hc24 => ?_)
      · refine Goes.step (fun _ k => XS.icmpNo X0.here hx rfl (hb hby d3_24) rfl (teq hc24).2 k) ?_
        show Goes p e below s _ _ _ s₁ (mkF m 27 #[.val (.int p1), .val (.int p2), .val (.int p3), .val (.int p4), .val (.int (p1 % (3 : Int32)))] [])
        refine Goes.step (fun _ k => XS.iloadN X0.here hx rfl (hb hby d3_27) rfl k) ?_
        show Goes p e below s _ _ _ s₁ (mkF m 28 #[.val (.int p1), .val (.int p2), .val (.int p3), .val (.int p4), .val (.int (p1 % (3 : Int32)))] [(.int p3)])
        exact Goes.outI X0 hx hlk Bd.returns (hb hby d3_28) ⟨rfl, rfl, e0⟩ (by decide) (by decide)
      · refine Goes.step (fun _ k => XS.icmpYes X0.here hx rfl (pc0 := 24) (pc' := 29) rfl (hb hby d3_24) rfl (feq hc24).2 (by decide) (by decide) k) ?_
        show Goes p e below s _ _ _ s₁ (mkF m 29 #[.val (.int p1), .val (.int p2), .val (.int p3), .val (.int p4), .val (.int (p1 % (3 : Int32)))] [])
        refine Goes.step (fun _ k => XS.iloadN X0.here hx rfl (hb hby d3_29) rfl k) ?_
        show Goes p e below s _ _ _ s₁ (mkF m 30 #[.val (.int p1), .val (.int p2), .val (.int p3), .val (.int p4), .val (.int (p1 % (3 : Int32)))] [(.int p4)])
        exact Goes.outI X0 hx hlk Bd.returns (hb hby d3_30) ⟨rfl, rfl, e0⟩ (by decide) (by decide)
theorem own_and3 (p : Int32) : p &&& (3 : Int32) = (0 : Int32) ∨ p &&& (3 : Int32) = (1 : Int32) ∨ p &&& (3 : Int32) = (2 : Int32) ∨ p &&& (3 : Int32) = (3 : Int32) := by
  have e := c_mask p 3 2 (by decide) (by decide)
  generalize p &&& (3 : Int32) = c at *
  have l : (0 : Int32).toInt = 0 ∧ (1 : Int32).toInt = 1 ∧ (2 : Int32).toInt = 2 ∧ (3 : Int32).toInt = 3 := by decide
  simp only [← Int32.toInt_inj, l.1, l.2.1, l.2.2.1, l.2.2.2]
  omega
theorem own_pos {x : Int32} (h : ¬ x < (0 : Int32)) : x = Int32.ofNat x.toInt.toNat := by
  rw [Int32.lt_iff_toInt_lt] at h
  have l : (0 : Int32).toInt = 0 := rfl
  have r := x.toInt_lt
  apply Int32.toInt_inj.mp
  rw [Int32.toInt_ofNat_of_lt (by omega)]; omega
theorem own_lt {i n : Nat} (h : i < n) (hn : n ≤ 3) : Int32.ofNat i < Int32.ofNat n := by
  rw [Int32.lt_iff_toInt_lt, Int32.toInt_ofNat_of_lt (by omega), Int32.toInt_ofNat_of_lt (by omega)]; omega
theorem own_ge {i n : Nat} (h : i + 0 = n) : ¬ (Int32.ofNat i < Int32.ofNat i) := Int32.lt_irrefl
def own_F (f g : Nat → Int32) (j : Nat) : Int32 := if f j < 0 then f j ^^^ (-1 : Int32) else g (f j).toInt.toNat
def own_acc (f g : Nat → Int32) (i : Nat) : Nat → Int32 := fun j => if j < i then own_F f g j else 0
theorem own_Fn (f g : Nat → Int32) (i : Nat) (h : f i < (0 : Int32)) : f i ^^^ (-1 : Int32) = own_F f g i := by simp [own_F, h]
theorem own_Fp (f g : Nat → Int32) (i : Nat) (h : ¬ f i < (0 : Int32)) : g (f i).toInt.toNat = own_F f g i := by simp only [own_F, h, if_false]
theorem own_next (f g : Nat → Int32) (i : Nat) {v : Int32} (h : v = own_F f g i) {n : Nat} : ∀ j, j < n → (fun j => if j = i then v else own_acc f g i j) j = own_acc f g (i + 1) j := by
  intro j _
  simp only [own_acc]
  by_cases e : j = i
  · subst e; simp [h]
  · by_cases q : j < i
    · simp [e, q, Nat.lt_succ_of_lt q]
    · have : ¬ j < i + 1 := by omega
      simp [e, q, this]
theorem own_end (f g : Nat → Int32) {n : Nat} : ∀ j, j < n → own_acc f g n j = own_F f g j := fun j hj => by simp [own_acc, hj]
def own_three (x y z : Int32) : Nat → Int32 := fun j => if j = 0 then x else if j = 1 then y else z
theorem own_l0 (x y z : Int32) {f : Nat → Int32} : ∀ j, j < 0 → f j = own_three x y z j := fun j hj => absurd hj (Nat.not_lt_zero j)
theorem own_l1 (x y z : Int32) : ∀ j, j < 1 → updI (fun _ => 0) 0 x j = own_three x y z j := by
  intro j hj
  obtain rfl : j = 0 := by omega
  rfl
theorem own_l2 (x y z : Int32) : ∀ j, j < 2 → updI (updI (fun _ => 0) 0 x) 1 y j = own_three x y z j := by
  intro j hj
  obtain rfl | rfl : j = 0 ∨ j = 1 := by omega
  · rfl
  · rfl
theorem own_l3 (x y z : Int32) : ∀ j, j < 3 → updI (updI (updI (fun _ => 0) 0 x) 1 y) 2 z j = own_three x y z j := by
  intro j hj
  obtain rfl | rfl | rfl : j = 0 ∨ j = 1 ∨ j = 2 := by omega
  · rfl
  · rfl
  · rfl
def own_codes (a b c : Int32) : Nat → Int32 := own_three (f2 a) (f2 b) (f2 c)
def own_bind (x y z : Int32) : Nat → Int32 := own_three x y z
theorem own_rem (a : Int32) (h : ¬ a < (0 : Int32)) : a % 3 = 0 ∨ a % 3 = 1 ∨ a % 3 = 2 := by
  rw [Int32.lt_iff_toInt_lt] at h
  have l : (0 : Int32).toInt = 0 ∧ (1 : Int32).toInt = 1 ∧ (2 : Int32).toInt = 2 := by decide
  have e := (c_irem a 3 3 rfl).1 (by have := l.1; omega)
  simp only [← Int32.toInt_inj, l.1, l.2.1, l.2.2]
  omega
theorem own_code (a : Int32) (h : ¬ f2 a < 0) : (f2 a).toInt.toNat < 3 := by
  simp only [f2] at h ⊢
  by_cases q : a < 0
  · simp only [q, if_true] at h; exact absurd trivial h
  · simp only [q, if_false]
    rcases own_rem a q with e | e | e <;> rw [e] <;> decide
theorem own_codes_lt (a b c : Int32) (n : Nat) : ∀ j, j < n → ¬ own_codes a b c j < 0 → (own_codes a b c j).toInt.toNat < 3 := by
  intro j _ h
  simp only [own_codes, own_three] at h ⊢
  split at h <;> rename_i q <;> simp only [q, if_true, if_false]
  · exact own_code a h
  · split at h <;> rename_i q <;> simp only [q, if_true, if_false]
    · exact own_code b h
    · exact own_code c h
theorem own_not (a : Int32) : a ^^^ (-1 : Int32) = -a - 1 := by
  apply Int32.toBitVec_inj.mp
  have e : (-1 : Int32).toBitVec = BitVec.allOnes 32 := by decide
  rw [Int32.toBitVec_xor, e, BitVec.xor_allOnes, Int32.toBitVec_sub, Int32.toBitVec_neg, BitVec.neg_eq_not_add]
  have e1 : (1 : Int32).toBitVec = 1#32 := rfl
  rw [e1]
  exact (BitVec.add_sub_cancel _ _).symm
theorem own_one (raw x y z : Int32) : (if f2 raw < 0 then f2 raw ^^^ (-1 : Int32) else own_bind x y z (f2 raw).toInt.toNat) = f3 raw x y z := by
  by_cases q : raw < 0
  · simp only [f2, f3, q, if_true]; exact own_not raw
  · have k : ¬ (f2 raw < 0) := by
      simp only [f2, q, if_false]
      rcases own_rem raw q with e | e | e <;> rw [e] <;> decide
    simp only [k, if_false]
    simp only [f2, f3, q, if_false]
    rcases own_rem raw q with e | e | e <;> rw [e] <;> rfl
theorem own_e0 (p1 p2 p3 p4 p5 p6 : Int32) : own_F (own_codes p2 p3 p4) (own_bind p5 p6 p1) 0 = f3 p2 p5 p6 p1 := own_one p2 p5 p6 p1
theorem own_e1 (p1 p2 p3 p4 p5 p6 : Int32) : own_F (own_codes p2 p3 p4) (own_bind p5 p6 p1) 1 = f3 p3 p5 p6 p1 := own_one p3 p5 p6 p1
theorem own_e2 (p1 p2 p3 p4 p5 p6 : Int32) : own_F (own_codes p2 p3 p4) (own_bind p5 p6 p1) 2 = f3 p4 p5 p6 p1 := own_one p4 p5 p6 p1
theorem d1_0 : decode prog_4_method_6_code 0 = .ok (.aload_n 0, 1) := by decide +kernel
theorem d1_1 : decode prog_4_method_6_code 1 = .ok (.arraylength, 1) := by decide +kernel
theorem d1_2 : decode prog_4_method_6_code 2 = .ok (.newarray .int, 2) := by decide +kernel
theorem d1_4 : decode prog_4_method_6_code 4 = .ok (.astore_n 2, 1) := by decide +kernel
theorem d1_5 : decode prog_4_method_6_code 5 = .ok (.iconst 0, 1) := by decide +kernel
theorem d1_6 : decode prog_4_method_6_code 6 = .ok (.istore_n 3, 1) := by decide +kernel
theorem d1_7 : decode prog_4_method_6_code 7 = .ok (.iload_n 3, 1) := by decide +kernel
theorem d1_8 : decode prog_4_method_6_code 8 = .ok (.aload_n 0, 1) := by decide +kernel
theorem d1_9 : decode prog_4_method_6_code 9 = .ok (.arraylength, 1) := by decide +kernel
theorem d1_10 : decode prog_4_method_6_code 10 = .ok (.if_icmp .ge 31, 3) := by decide +kernel
theorem d1_13 : decode prog_4_method_6_code 13 = .ok (.aload_n 2, 1) := by decide +kernel
theorem d1_14 : decode prog_4_method_6_code 14 = .ok (.iload_n 3, 1) := by decide +kernel
theorem d1_15 : decode prog_4_method_6_code 15 = .ok (.aload_n 0, 1) := by decide +kernel
theorem d1_16 : decode prog_4_method_6_code 16 = .ok (.iload_n 3, 1) := by decide +kernel
theorem d1_17 : decode prog_4_method_6_code 17 = .ok (.iaload, 1) := by decide +kernel
theorem d1_18 : decode prog_4_method_6_code 18 = .ok (.ifCond .lt 11, 3) := by decide +kernel
theorem d1_21 : decode prog_4_method_6_code 21 = .ok (.aload_n 1, 1) := by decide +kernel
theorem d1_22 : decode prog_4_method_6_code 22 = .ok (.aload_n 0, 1) := by decide +kernel
theorem d1_23 : decode prog_4_method_6_code 23 = .ok (.iload_n 3, 1) := by decide +kernel
theorem d1_24 : decode prog_4_method_6_code 24 = .ok (.iaload, 1) := by decide +kernel
theorem d1_25 : decode prog_4_method_6_code 25 = .ok (.iaload, 1) := by decide +kernel
theorem d1_26 : decode prog_4_method_6_code 26 = .ok (.goto 8, 3) := by decide +kernel
theorem d1_29 : decode prog_4_method_6_code 29 = .ok (.aload_n 0, 1) := by decide +kernel
theorem d1_30 : decode prog_4_method_6_code 30 = .ok (.iload_n 3, 1) := by decide +kernel
theorem d1_31 : decode prog_4_method_6_code 31 = .ok (.iaload, 1) := by decide +kernel
theorem d1_32 : decode prog_4_method_6_code 32 = .ok (.iconst (-1), 1) := by decide +kernel
theorem d1_33 : decode prog_4_method_6_code 33 = .ok (.ixor, 1) := by decide +kernel
theorem d1_34 : decode prog_4_method_6_code 34 = .ok (.iastore, 1) := by decide +kernel
theorem d1_35 : decode prog_4_method_6_code 35 = .ok (.iinc 3 1, 3) := by decide +kernel
theorem d1_38 : decode prog_4_method_6_code 38 = .ok (.goto (-31), 3) := by decide +kernel
theorem d1_41 : decode prog_4_method_6_code 41 = .ok (.aload_n 2, 1) := by decide +kernel
theorem d1_42 : decode prog_4_method_6_code 42 = .ok (.areturn, 1) := by decide +kernel
theorem pn_1 : plainName "com/example/decompose/decompose/engine/Binder" = true := by first | (simp [plainName, overriddenIn]; done) | decide +kernel
theorem ef_1 (m : MethodId) (a1 : Addr) (a2 : Addr) : entryFrame m #[(.ref a1), (.ref a2)] 4 = mkF m 0 #[.val (.ref a1), .val (.ref a2), .unset, .unset] [] := by first | (simp [entryFrame, mkF, argsToLocals, Value.category]; done) | rfl
def Q1 (Z : State) (a1 : Addr) (a2 : Addr) (n : Nat) (f : Nat → Int32) (g : Nat → Int32) (h0 : Heap) (n0 : Nat) (v : Option Value) (h : Heap) (L : List Loc) : Prop := ∃ o, v = some (.ref o) ∧ Fr n0 L ∧ Keep h0 h [] ∧ h0.size ≤ o ∧ Ari Z h o .int n (own_F f g)
set_option maxRecDepth 65536 in
set_option maxHeartbeats 40000000 in
theorem rm1 (l : Launch) (Z : State) (a0 : Array Value) (hw : ∀ d ∈ tables_1, d.before a0 Z = true) (ws : List Jvm.Cond) (a1 : Addr) (a2 : Addr) (n : Nat) (f : Nat → Int32) (g : Nat → Int32) (h0 : Heap) (n0 : Nat) (Z0 : n0 ≤ h0.size) (hn3 : n ≤ 3) (hbd : ∀ j, j < n → ¬ f j < 0 → (f j).toInt.toNat < 3) (A_a1_0 : Ari Z h0 a1 .int n f) (A_a2_0 : Ari Z h0 a2 .int 3 g) :
    MetFree l (⟨"com/example/decompose/decompose/engine/Binder", "substitute", "([I[I)[I"⟩ : MethodName) (head1 (Jvm.Cond.code (⟨"com/example/decompose/decompose/engine/Binder", "substitute", "([I[I)[I"⟩ : MethodName) prog_4_method_6_code 4 (some (.array .int)) :: ws) ({ frames := 0, cells := 1, slots := 3, locals := 0 } : Room)) (fun a U => a = #[(.ref a1), (.ref a2)] ∧ Z.Warmed39 U.vm ∧ U.heap = h0) (fun _ _ _ _ _ => True) (fun _ U o U' => ∃ v L, o = .returned v ∧ Q1 Z a1 a2 n f g h0 n0 v U'.heap L ∧ FrameEnd U o U' L ({ frames := 0, cells := 1, slots := 3, locals := 0 } : Room).cells ({ frames := 0, cells := 1, slots := 3, locals := 0 } : Room).slots) := by
  refine MetFree.of_bodySF (plainFor_of_name pn_1) hisR ?_
  intro p e s m args below meth c s₁ Bd hml0 hP hK
  obtain ⟨rfl, hZ, hh⟩ := hP
  have hx := Bd.exec
  have hby := Bd.bytes
  have hlk := Bd.notSynchronized
  have hml : c.maxLocals = 4 := hml0
  have hown : s.vm.findClass "com/example/decompose/decompose/engine/Binder" = some m.cls := findClass_of_methodNamed Bd.named
  have hnm := (name_of_methodNamed Bd.named Bd.method).1
  have X0 : Stand p l e ({ frames := 0, cells := 1, slots := 3, locals := 0 } : Room) s m #[(.ref a1), (.ref a2)] below meth c s₁ [] 0 0 := Stand.of_body Bd
  have e0 : s₁.heap = h0 := by rw [← hh, Bd.state]; rfl
  have N0 := Fr.nil n0
  have K0 : Keep h0 h0 [] := Keep.refl h0 _
  show Goes p e below s ({ frames := 0, cells := 1, slots := 3, locals := 0 } : Room).cells ({ frames := 0, cells := 1, slots := 3, locals := 0 } : Room).slots (Q1 Z a1 a2 n f g h0 n0) s₁ (entryFrame m #[(.ref a1), (.ref a2)] 4)
  refine Goes.step (fun t k => castTop (ef_1 m a1 a2) k) ?_
  refine Goes.step (fun _ k => XS.aloadN X0.here hx rfl (hb hby d1_0) rfl rfl k) ?_
  show Goes p e below s _ _ _ s₁ (mkF m 1 #[.val (.ref a1), .val (.ref a2), .unset, .unset] [(.ref a1)])
  refine Goes.step (fun _ k => rdL X0 hx hZ e0 A_a1_0 (g := (mkF m 1 #[.val (.ref a1), .val (.ref a2), .unset, .unset] [(.ref a1)])) rfl rfl (hb hby d1_1) _ k) ?_
  show Goes p e below s _ _ _ s₁ (mkF m 2 #[.val (.ref a1), .val (.ref a2), .unset, .unset] [(.int (Int32.ofNat n))])
  obtain ⟨T1, h1, X1, e1, E1, A1, st1⟩ := newI X0 hx hZ (hw _ (List.mem_of_getElem? (i := 0) rfl)) e0 (g := (mkF m 2 #[.val (.ref a1), .val (.ref a2), .unset, .unset] [(.int (Int32.ofNat n))])) rfl (hb hby d1_2) rfl (N := n) rfl (cap := 3) hn3 (by decide) (by decide) (by decide) rfl (by decide)
  obtain ⟨b1, g_1⟩ : ∃ z, z = h0.size := ⟨_, rfl⟩
  rw [← g_1] at A1 st1
  refine Goes.step st1 ?_
  have ne_a1_b1 : a1 ≠ b1 := Nat.ne_of_lt (by rw [g_1]; exact A_a1_0.lt)
  have ne_a2_b1 : a2 ≠ b1 := Nat.ne_of_lt (by rw [g_1]; exact A_a2_0.lt)
  have ge_b1 : n0 ≤ b1 := by rw [g_1]; exact Z0
  have sz_b1 : h0.size ≤ b1 := by rw [g_1]; exact K0.1
  have A_a1_1 := A_a1_0.ext E1
  have A_a2_1 := A_a2_0.ext E1
  have z_1 : n0 ≤ h1.size := Nat.le_trans Z0 E1.1
  have K_1 : Keep h0 h1 [] := K0.ext E1
  have A_b1_1 : Ari Z h1 b1 .int (n) (fun _ => 0) := A1
  show Goes p e below s _ _ _ T1 (mkF m 4 #[.val (.ref a1), .val (.ref a2), .unset, .unset] [(.ref b1)])
  refine Goes.step (fun _ k => XS.astoreN X1.here hx rfl (hb hby d1_4) rfl rfl (l' := #[.val (.ref a1), .val (.ref a2), .val (.ref b1), .unset]) rfl k) ?_
  show Goes p e below s _ _ _ T1 (mkF m 5 #[.val (.ref a1), .val (.ref a2), .val (.ref b1), .unset] [])
  refine Goes.step (fun _ k => XS.iconst X1.here hx rfl (hb hby d1_5) k) ?_
  show Goes p e below s _ _ _ T1 (mkF m 6 #[.val (.ref a1), .val (.ref a2), .val (.ref b1), .unset] [(.int (0 : Int32))])
  refine Goes.step (fun _ k => XS.istoreN X1.here hx rfl (hb hby d1_6) rfl (l' := #[.val (.ref a1), .val (.ref a2), .val (.ref b1), .val (.int (0 : Int32))]) rfl k) ?_
  show Goes p e below s _ _ _ T1 (mkF m 7 #[.val (.ref a1), .val (.ref a2), .val (.ref b1), .val (.int (0 : Int32))] [])
  have LOOP : ∀ (k i : Nat), i + k = n → ∀ (T : State) (h : Heap) (locs : List Loc), Stand p l e ({ frames := 0, cells := 1, slots := 3, locals := 0 } : Room) s m #[(.ref a1), (.ref a2)] below meth c T locs 1 3 → T.heap = h → Fr n0 locs → n0 ≤ h.size → Keep h0 h [] → Ari Z h a1 .int n f → Ari Z h a2 .int 3 g → Ari Z h b1 .int n (own_acc f g i) → Goes p e below s ({ frames := 0, cells := 1, slots := 3, locals := 0 } : Room).cells ({ frames := 0, cells := 1, slots := 3, locals := 0 } : Room).slots (Q1 Z a1 a2 n f g h0 n0) T (mkF m 7 #[.val (.ref a1), .val (.ref a2), .val (.ref b1), .val (.int (Int32.ofNat i))] []) := by
    intro k
    induction k with
    | zero =>
      intro i hi T h locs X eT N zl Kl A_a1_0 A_a2_0 A_b1_0
      obtain rfl : i = n := by omega
      refine Goes.step (fun _ k => XS.iloadN X.here hx rfl (hb hby d1_7) rfl k) ?_
      show Goes p e below s _ _ _ T (mkF m 8 #[.val (.ref a1), .val (.ref a2), .val (.ref b1), .val (.int (Int32.ofNat i))] [(.int (Int32.ofNat i))])
      refine Goes.step (fun _ k => XS.aloadN X.here hx rfl (hb hby d1_8) rfl rfl k) ?_
      show Goes p e below s _ _ _ T (mkF m 9 #[.val (.ref a1), .val (.ref a2), .val (.ref b1), .val (.int (Int32.ofNat i))] [(.ref a1), (.int (Int32.ofNat i))])
      refine Goes.step (fun _ k => rdL X hx hZ eT A_a1_0 (g := (mkF m 9 #[.val (.ref a1), .val (.ref a2), .val (.ref b1), .val (.int (Int32.ofNat i))] [(.ref a1), (.int (Int32.ofNat i))])) rfl rfl (hb hby d1_9) _ k) ?_
      show Goes p e below s _ _ _ T (mkF m 10 #[.val (.ref a1), .val (.ref a2), .val (.ref b1), .val (.int (Int32.ofNat i))] [(.int (Int32.ofNat i)), (.int (Int32.ofNat i))])
      refine Goes.step (fun _ k => XS.icmpYes X.here hx rfl (pc0 := 10) (pc' := 41) rfl (hb hby d1_10) rfl (flt (own_ge hi)).2.1 (by decide) (by decide) k) ?_
      show Goes p e below s _ _ _ T (mkF m 41 #[.val (.ref a1), .val (.ref a2), .val (.ref b1), .val (.int (Int32.ofNat i))] [])
      refine Goes.step (fun _ k => XS.aloadN X.here hx rfl (hb hby d1_41) rfl rfl k) ?_
      show Goes p e below s _ _ _ T (mkF m 42 #[.val (.ref a1), .val (.ref a2), .val (.ref b1), .val (.int (Int32.ofNat i))] [(.ref b1)])
      exact Goes.outR X hx hlk Bd.returns rfl rfl (hb hby d1_42) (by rw [eT]; exact ⟨b1, rfl, N, Kl, sz_b1, A_b1_0.cast (own_end f g)⟩) (by decide) (by decide)
    | succ k ih =>
      intro i hi T h locs X eT N zl Kl A_a1_0 A_a2_0 A_b1_0
      refine Goes.step (fun _ k => XS.iloadN X.here hx rfl (hb hby d1_7) rfl k) ?_
      show Goes p e below s _ _ _ T (mkF m 8 #[.val (.ref a1), .val (.ref a2), .val (.ref b1), .val (.int (Int32.ofNat i))] [(.int (Int32.ofNat i))])
      refine Goes.step (fun _ k => XS.aloadN X.here hx rfl (hb hby d1_8) rfl rfl k) ?_
      show Goes p e below s _ _ _ T (mkF m 9 #[.val (.ref a1), .val (.ref a2), .val (.ref b1), .val (.int (Int32.ofNat i))] [(.ref a1), (.int (Int32.ofNat i))])
      refine Goes.step (fun _ k => rdL X hx hZ eT A_a1_0 (g := (mkF m 9 #[.val (.ref a1), .val (.ref a2), .val (.ref b1), .val (.int (Int32.ofNat i))] [(.ref a1), (.int (Int32.ofNat i))])) rfl rfl (hb hby d1_9) _ k) ?_
      show Goes p e below s _ _ _ T (mkF m 10 #[.val (.ref a1), .val (.ref a2), .val (.ref b1), .val (.int (Int32.ofNat i))] [(.int (Int32.ofNat n)), (.int (Int32.ofNat i))])
      refine Goes.step (fun _ k => XS.icmpNo X.here hx rfl (hb hby d1_10) rfl (tlt (own_lt (by omega) hn3)).2.1 k) ?_
      show Goes p e below s _ _ _ T (mkF m 13 #[.val (.ref a1), .val (.ref a2), .val (.ref b1), .val (.int (Int32.ofNat i))] [])
      refine Goes.step (fun _ k => XS.aloadN X.here hx rfl (hb hby d1_13) rfl rfl k) ?_
      show Goes p e below s _ _ _ T (mkF m 14 #[.val (.ref a1), .val (.ref a2), .val (.ref b1), .val (.int (Int32.ofNat i))] [(.ref b1)])
      refine Goes.step (fun _ k => XS.iloadN X.here hx rfl (hb hby d1_14) rfl k) ?_
      show Goes p e below s _ _ _ T (mkF m 15 #[.val (.ref a1), .val (.ref a2), .val (.ref b1), .val (.int (Int32.ofNat i))] [(.int (Int32.ofNat i)), (.ref b1)])
      refine Goes.step (fun _ k => XS.aloadN X.here hx rfl (hb hby d1_15) rfl rfl k) ?_
      show Goes p e below s _ _ _ T (mkF m 16 #[.val (.ref a1), .val (.ref a2), .val (.ref b1), .val (.int (Int32.ofNat i))] [(.ref a1), (.int (Int32.ofNat i)), (.ref b1)])
      refine Goes.step (fun _ k => XS.iloadN X.here hx rfl (hb hby d1_16) rfl k) ?_
      show Goes p e below s _ _ _ T (mkF m 17 #[.val (.ref a1), .val (.ref a2), .val (.ref b1), .val (.int (Int32.ofNat i))] [(.int (Int32.ofNat i)), (.ref a1), (.int (Int32.ofNat i)), (.ref b1)])
      refine Goes.step (fun _ k => rdI X hx hZ eT A_a1_0 (i) rfl (by omega) (g := (mkF m 17 #[.val (.ref a1), .val (.ref a2), .val (.ref b1), .val (.int (Int32.ofNat i))] [(.int (Int32.ofNat i)), (.ref a1), (.int (Int32.ofNat i)), (.ref b1)])) rfl rfl (hb hby d1_17) _ k) ?_
      show Goes p e below s _ _ _ T (mkF m 18 #[.val (.ref a1), .val (.ref a2), .val (.ref b1), .val (.int (Int32.ofNat i))] [(.int (f (i))), (.int (Int32.ofNat i)), (.ref b1)])
      by_cases hc18 : (f (i)) < (0 : Int32)
      · refine Goes.step (fun _ k => XS.ifYes X.here hx rfl (pc0 := 18) (pc' := 29) rfl (hb hby d1_18) rfl ((if0 _ _).trans (tlt hc18).1) (by decide) (by decide) k) ?_
        show Goes p e below s _ _ _ T (mkF m 29 #[.val (.ref a1), .val (.ref a2), .val (.ref b1), .val (.int (Int32.ofNat i))] [(.int (Int32.ofNat i)), (.ref b1)])
        refine Goes.step (fun _ k => XS.aloadN X.here hx rfl (hb hby d1_29) rfl rfl k) ?_
        show Goes p e below s _ _ _ T (mkF m 30 #[.val (.ref a1), .val (.ref a2), .val (.ref b1), .val (.int (Int32.ofNat i))] [(.ref a1), (.int (Int32.ofNat i)), (.ref b1)])
        refine Goes.step (fun _ k => XS.iloadN X.here hx rfl (hb hby d1_30) rfl k) ?_
        show Goes p e below s _ _ _ T (mkF m 31 #[.val (.ref a1), .val (.ref a2), .val (.ref b1), .val (.int (Int32.ofNat i))] [(.int (Int32.ofNat i)), (.ref a1), (.int (Int32.ofNat i)), (.ref b1)])
        refine Goes.step (fun _ k => rdI X hx hZ eT A_a1_0 (i) rfl (by omega) (g := (mkF m 31 #[.val (.ref a1), .val (.ref a2), .val (.ref b1), .val (.int (Int32.ofNat i))] [(.int (Int32.ofNat i)), (.ref a1), (.int (Int32.ofNat i)), (.ref b1)])) rfl rfl (hb hby d1_31) _ k) ?_
        show Goes p e below s _ _ _ T (mkF m 32 #[.val (.ref a1), .val (.ref a2), .val (.ref b1), .val (.int (Int32.ofNat i))] [(.int (f (i))), (.int (Int32.ofNat i)), (.ref b1)])
        refine Goes.step (fun _ k => XS.iconst X.here hx rfl (hb hby d1_32) k) ?_
        show Goes p e below s _ _ _ T (mkF m 33 #[.val (.ref a1), .val (.ref a2), .val (.ref b1), .val (.int (Int32.ofNat i))] [(.int (-1 : Int32)), (.int (f (i))), (.int (Int32.ofNat i)), (.ref b1)])
        refine Goes.step (fun _ k => XS.ixor X.here hx rfl (hb hby d1_33) rfl k) ?_
        show Goes p e below s _ _ _ T (mkF m 34 #[.val (.ref a1), .val (.ref a2), .val (.ref b1), .val (.int (Int32.ofNat i))] [(.int ((f (i)) ^^^ (-1 : Int32))), (.int (Int32.ofNat i)), (.ref b1)])
        obtain ⟨T2, h2, X2, e2, W2, A2, st2⟩ := stoI X hx hZ eT A_b1_0 (i) rfl (by omega) (g := (mkF m 34 #[.val (.ref a1), .val (.ref a2), .val (.ref b1), .val (.int (Int32.ofNat i))] [(.int ((f (i)) ^^^ (-1 : Int32))), (.int (Int32.ofNat i)), (.ref b1)])) rfl rfl (hb hby d1_34)
        refine Goes.step st2 ?_
        have A_a1_2 := A_a1_0.other W2 ne_a1_b1
        have A_a2_2 := A_a2_0.other W2 ne_a2_b1
        have z_2 : n0 ≤ h2.size := by rw [W2.size]; exact zl
        have K_2 : Keep h0 h2 [] := Kl.wr W2 (Or.inr sz_b1)
        have N_2 := Fr.snoc X2 N ge_b1
        have A_b1_2 : Ari Z h2 b1 .int (n) (updI (own_acc f g i) (i) ((f (i)) ^^^ (-1 : Int32))) := A2
        show Goes p e below s _ _ _ T2 (mkF m 35 #[.val (.ref a1), .val (.ref a2), .val (.ref b1), .val (.int (Int32.ofNat i))] [])
        refine Goes.step (fun _ k => XS.iinc X2.here hx rfl (hb hby d1_35) rfl (l' := #[.val (.ref a1), .val (.ref a2), .val (.ref b1), .val (.int ((Int32.ofNat i) + (1 : Int32)))]) rfl k) ?_
        show Goes p e below s _ _ _ T2 (mkF m 38 #[.val (.ref a1), .val (.ref a2), .val (.ref b1), .val (.int ((Int32.ofNat i) + (1 : Int32)))] [])
        refine Goes.step (fun _ k => XS.goto X2.here hx rfl (pc0 := 38) (pc' := 7) rfl (hb hby d1_38) (by decide) (by decide) k) ?_
        show Goes p e below s _ _ _ T2 (mkF m 7 #[.val (.ref a1), .val (.ref a2), .val (.ref b1), .val (.int ((Int32.ofNat i) + (1 : Int32)))] [])
        rw [show Int32.ofNat i + (1 : Int32) = Int32.ofNat (i + 1) from (Int32.ofNat_add i 1).symm]
        exact ih (i + 1) (by omega) T2 h2 _ X2 e2 N_2 z_2 K_2 A_a1_2 A_a2_2 (A_b1_2.cast (own_next f g i (own_Fn f g i hc18)))
      · refine Goes.step (fun _ k => XS.ifNo X.here hx rfl (hb hby d1_18) rfl ((if0 _ _).trans (flt hc18).1) k) ?_
        show Goes p e below s _ _ _ T (mkF m 21 #[.val (.ref a1), .val (.ref a2), .val (.ref b1), .val (.int (Int32.ofNat i))] [(.int (Int32.ofNat i)), (.ref b1)])
        refine Goes.step (fun _ k => XS.aloadN X.here hx rfl (hb hby d1_21) rfl rfl k) ?_
        show Goes p e below s _ _ _ T (mkF m 22 #[.val (.ref a1), .val (.ref a2), .val (.ref b1), .val (.int (Int32.ofNat i))] [(.ref a2), (.int (Int32.ofNat i)), (.ref b1)])
        refine Goes.step (fun _ k => XS.aloadN X.here hx rfl (hb hby d1_22) rfl rfl k) ?_
        show Goes p e below s _ _ _ T (mkF m 23 #[.val (.ref a1), .val (.ref a2), .val (.ref b1), .val (.int (Int32.ofNat i))] [(.ref a1), (.ref a2), (.int (Int32.ofNat i)), (.ref b1)])
        refine Goes.step (fun _ k => XS.iloadN X.here hx rfl (hb hby d1_23) rfl k) ?_
        show Goes p e below s _ _ _ T (mkF m 24 #[.val (.ref a1), .val (.ref a2), .val (.ref b1), .val (.int (Int32.ofNat i))] [(.int (Int32.ofNat i)), (.ref a1), (.ref a2), (.int (Int32.ofNat i)), (.ref b1)])
        refine Goes.step (fun _ k => rdI X hx hZ eT A_a1_0 (i) rfl (by omega) (g := (mkF m 24 #[.val (.ref a1), .val (.ref a2), .val (.ref b1), .val (.int (Int32.ofNat i))] [(.int (Int32.ofNat i)), (.ref a1), (.ref a2), (.int (Int32.ofNat i)), (.ref b1)])) rfl rfl (hb hby d1_24) _ k) ?_
        show Goes p e below s _ _ _ T (mkF m 25 #[.val (.ref a1), .val (.ref a2), .val (.ref b1), .val (.int (Int32.ofNat i))] [(.int (f (i))), (.ref a2), (.int (Int32.ofNat i)), (.ref b1)])
        refine Goes.step (fun _ k => rdI X hx hZ eT A_a2_0 ((f i).toInt.toNat) (own_pos hc18) (hbd i (by omega) hc18) (g := (mkF m 25 #[.val (.ref a1), .val (.ref a2), .val (.ref b1), .val (.int (Int32.ofNat i))] [(.int (f (i))), (.ref a2), (.int (Int32.ofNat i)), (.ref b1)])) rfl rfl (hb hby d1_25) _ k) ?_
        show Goes p e below s _ _ _ T (mkF m 26 #[.val (.ref a1), .val (.ref a2), .val (.ref b1), .val (.int (Int32.ofNat i))] [(.int (g ((f i).toInt.toNat))), (.int (Int32.ofNat i)), (.ref b1)])
        refine Goes.step (fun _ k => XS.goto X.here hx rfl (pc0 := 26) (pc' := 34) rfl (hb hby d1_26) (by decide) (by decide) k) ?_
        show Goes p e below s _ _ _ T (mkF m 34 #[.val (.ref a1), .val (.ref a2), .val (.ref b1), .val (.int (Int32.ofNat i))] [(.int (g ((f i).toInt.toNat))), (.int (Int32.ofNat i)), (.ref b1)])
        obtain ⟨T3, h3, X3, e3, W3, A3, st3⟩ := stoI X hx hZ eT A_b1_0 (i) rfl (by omega) (g := (mkF m 34 #[.val (.ref a1), .val (.ref a2), .val (.ref b1), .val (.int (Int32.ofNat i))] [(.int (g ((f i).toInt.toNat))), (.int (Int32.ofNat i)), (.ref b1)])) rfl rfl (hb hby d1_34)
        refine Goes.step st3 ?_
        have A_a1_3 := A_a1_0.other W3 ne_a1_b1
        have A_a2_3 := A_a2_0.other W3 ne_a2_b1
        have z_3 : n0 ≤ h3.size := by rw [W3.size]; exact zl
        have K_3 : Keep h0 h3 [] := Kl.wr W3 (Or.inr sz_b1)
        have N_3 := Fr.snoc X3 N ge_b1
        have A_b1_3 : Ari Z h3 b1 .int (n) (updI (own_acc f g i) (i) (g ((f i).toInt.toNat))) := A3
        show Goes p e below s _ _ _ T3 (mkF m 35 #[.val (.ref a1), .val (.ref a2), .val (.ref b1), .val (.int (Int32.ofNat i))] [])
        refine Goes.step (fun _ k => XS.iinc X3.here hx rfl (hb hby d1_35) rfl (l' := #[.val (.ref a1), .val (.ref a2), .val (.ref b1), .val (.int ((Int32.ofNat i) + (1 : Int32)))]) rfl k) ?_
        show Goes p e below s _ _ _ T3 (mkF m 38 #[.val (.ref a1), .val (.ref a2), .val (.ref b1), .val (.int ((Int32.ofNat i) + (1 : Int32)))] [])
        refine Goes.step (fun _ k => XS.goto X3.here hx rfl (pc0 := 38) (pc' := 7) rfl (hb hby d1_38) (by decide) (by decide) k) ?_
        show Goes p e below s _ _ _ T3 (mkF m 7 #[.val (.ref a1), .val (.ref a2), .val (.ref b1), .val (.int ((Int32.ofNat i) + (1 : Int32)))] [])
        rw [show Int32.ofNat i + (1 : Int32) = Int32.ofNat (i + 1) from (Int32.ofNat_add i 1).symm]
        exact ih (i + 1) (by omega) T3 h3 _ X3 e3 N_3 z_3 K_3 A_a1_3 A_a2_3 (A_b1_3.cast (own_next f g i (own_Fp f g i hc18)))
  exact LOOP n 0 (by omega) T1 h1 _ X1 e1 N0 z_1 K_1 A_a1_1 A_a2_1 (A_b1_1.cast (fun j _ => by simp [own_acc]))
theorem pn_0 : plainName "com/example/decompose/decompose/engine/BinderSubstitutePinLaw" = true := by first | (simp [plainName, overriddenIn]; done) | decide +kernel
theorem pd_0_0 : parseMethodDescriptor "([I[I)[I" = some ⟨[(.array .int), (.array .int)], some (.array .int)⟩ := by decide +kernel
theorem pd_0_1 : parseMethodDescriptor "(I)I" = some ⟨[.int], some .int⟩ := by decide +kernel
theorem pd_0_2 : parseMethodDescriptor "(IIII)I" = some ⟨[.int, .int, .int, .int], some .int⟩ := by decide +kernel
theorem ef_0 (m : MethodId) (p1 : Int32) (p2 : Int32) (p3 : Int32) (p4 : Int32) (p5 : Int32) (p6 : Int32) : entryFrame m #[(.int p1), (.int p2), (.int p3), (.int p4), (.int p5), (.int p6)] maxLocals = mkF m 0 #[.val (.int p1), .val (.int p2), .val (.int p3), .val (.int p4), .val (.int p5), .val (.int p6), .unset, .unset, .unset, .unset] [] := by first | (simp [entryFrame, mkF, argsToLocals, Value.category, maxLocals]; done) | rfl
def Q0 (Z : State) (p1 : Int32) (p2 : Int32) (p3 : Int32) (p4 : Int32) (p5 : Int32) (p6 : Int32)  (h0 : Heap) (n0 : Nat) (v : Option Value) (h : Heap) (L : List Loc) : Prop := v = some (.int (1 : Int32)) ∧ Fr n0 L
set_option maxRecDepth 65536 in
set_option maxHeartbeats 40000000 in
theorem rm0 (l : Launch) (Z : State) (a0 : Array Value) (hw : ∀ d ∈ tables_1, d.before a0 Z = true) (ws : List Jvm.Cond) (p1 : Int32) (p2 : Int32) (p3 : Int32) (p4 : Int32) (p5 : Int32) (p6 : Int32)  (h0 : Heap) (n0 : Nat) (Z0 : n0 ≤ h0.size)  :
    MetFree l x (head1 (Jvm.Cond.code x code maxLocals ret :: ws) room_1) (fun a U => a = #[(.int p1), (.int p2), (.int p3), (.int p4), (.int p5), (.int p6)] ∧ Z.Warmed39 U.vm ∧ U.heap = h0) (fun _ _ _ _ _ => True) (fun _ U o U' => ∃ v L, o = .returned v ∧ Q0 Z p1 p2 p3 p4 p5 p6 h0 n0 v U'.heap L ∧ FrameEnd U o U' L room_1.cells room_1.slots) := by
  refine MetFree.of_bodySF (plainFor_of_name pn_0) hisR ?_
  intro p e s m args below meth c s₁ Bd hml0 hP hK
  obtain ⟨rfl, hZ, hh⟩ := hP
  have hx := Bd.exec
  have hby := Bd.bytes
  have hlk := Bd.notSynchronized
  have hml : c.maxLocals = 10 := hml0
  have hown : s.vm.findClass "com/example/decompose/decompose/engine/BinderSubstitutePinLaw" = some m.cls := findClass_of_methodNamed Bd.named
  have hnm := (name_of_methodNamed Bd.named Bd.method).1
  have X0 : Stand p l e room_1 s m #[(.int p1), (.int p2), (.int p3), (.int p4), (.int p5), (.int p6)] below meth c s₁ [] 0 0 := Stand.of_body Bd
  have e0 : s₁.heap = h0 := by rw [← hh, Bd.state]; rfl
  have N0 := Fr.nil n0
  have K0 : Keep h0 h0 [] := Keep.refl h0 _
  show Goes p e below s room_1.cells room_1.slots (Q0 Z p1 p2 p3 p4 p5 p6 h0 n0) s₁ (entryFrame m #[(.int p1), (.int p2), (.int p3), (.int p4), (.int p5), (.int p6)] maxLocals)
  refine Goes.step (fun t k => castTop (ef_0 m p1 p2 p3 p4 p5 p6) k) ?_
  refine Goes.step (fun _ k => XS.iloadN X0.here hx rfl (hb hby at_0) rfl k) ?_
  show Goes p e below s _ _ _ s₁ (mkF m 1 #[.val (.int p1), .val (.int p2), .val (.int p3), .val (.int p4), .val (.int p5), .val (.int p6), .unset, .unset, .unset, .unset] [(.int p1)])
  refine Goes.step (fun _ k => XS.iconst X0.here hx rfl (hb hby at_1) k) ?_
  show Goes p e below s _ _ _ s₁ (mkF m 2 #[.val (.int p1), .val (.int p2), .val (.int p3), .val (.int p4), .val (.int p5), .val (.int p6), .unset, .unset, .unset, .unset] [(.int (3 : Int32)), (.int p1)])
  refine Goes.step (fun _ k => XS.iand X0.here hx rfl (hb hby at_2) rfl k) ?_
  show Goes p e below s _ _ _ s₁ (mkF m 3 #[.val (.int p1), .val (.int p2), .val (.int p3), .val (.int p4), .val (.int p5), .val (.int p6), .unset, .unset, .unset, .unset] [(.int (p1 &&& (3 : Int32)))])
  rcases own_and3 p1 with hq | hq | hq | hq
  · rw [hq]
    refine Goes.step (fun _ k => XS.istore X0.here hx rfl (hb hby at_3) rfl (l' := #[.val (.int p1), .val (.int p2), .val (.int p3), .val (.int p4), .val (.int p5), .val (.int p6), .val (.int (0 : Int32)), .unset, .unset, .unset]) rfl k) ?_
    show Goes p e below s _ _ _ s₁ (mkF m 5 #[.val (.int p1), .val (.int p2), .val (.int p3), .val (.int p4), .val (.int p5), .val (.int p6), .val (.int (0 : Int32)), .unset, .unset, .unset] [])
    refine Goes.step (fun _ k => XS.iload X0.here hx rfl (hb hby at_5) rfl k) ?_
    show Goes p e below s _ _ _ s₁ (mkF m 7 #[.val (.int p1), .val (.int p2), .val (.int p3), .val (.int p4), .val (.int p5), .val (.int p6), .val (.int (0 : Int32)), .unset, .unset, .unset] [(.int (0 : Int32))])
    obtain ⟨T1, h1, X1, e1, E1, A1, st1⟩ := newI X0 hx hZ (hw _ (List.mem_of_getElem? (i := 0) rfl)) e0 (g := (mkF m 7 #[.val (.int p1), .val (.int p2), .val (.int p3), .val (.int p4), .val (.int p5), .val (.int p6), .val (.int (0 : Int32)), .unset, .unset, .unset] [(.int (0 : Int32))])) rfl (hb hby at_7) rfl (N := 0) rfl (cap := 0) (by decide) (by decide) (by decide) (by decide) rfl (by decide)
    obtain ⟨b1, g_1⟩ : ∃ z, z = h0.size := ⟨_, rfl⟩
    rw [← g_1] at A1 st1
    refine Goes.step st1 ?_
    have ge_b1 : n0 ≤ b1 := by rw [g_1]; exact Z0
    have sz_b1 : h0.size ≤ b1 := by rw [g_1]; exact K0.1
    have z_1 : n0 ≤ h1.size := Nat.le_trans Z0 E1.1
    have K_1 : Keep h0 h1 [] := K0.ext E1
    have A_b1_1 : Ari Z h1 b1 .int (0) (fun _ => 0) := A1
    show Goes p e below s _ _ _ T1 (mkF m 9 #[.val (.int p1), .val (.int p2), .val (.int p3), .val (.int p4), .val (.int p5), .val (.int p6), .val (.int (0 : Int32)), .unset, .unset, .unset] [(.ref b1)])
    refine Goes.step (fun _ k => XS.astore X1.here hx rfl (hb hby at_9) rfl rfl (l' := #[.val (.int p1), .val (.int p2), .val (.int p3), .val (.int p4), .val (.int p5), .val (.int p6), .val (.int (0 : Int32)), .val (.ref b1), .unset, .unset]) rfl k) ?_
    show Goes p e below s _ _ _ T1 (mkF m 11 #[.val (.int p1), .val (.int p2), .val (.int p3), .val (.int p4), .val (.int p5), .val (.int p6), .val (.int (0 : Int32)), .val (.ref b1), .unset, .unset] [])
    refine Goes.step (fun _ k => XS.iload X1.here hx rfl (hb hby at_11) rfl k) ?_
    show Goes p e below s _ _ _ T1 (mkF m 13 #[.val (.int p1), .val (.int p2), .val (.int p3), .val (.int p4), .val (.int p5), .val (.int p6), .val (.int (0 : Int32)), .val (.ref b1), .unset, .unset] [(.int (0 : Int32))])
    refine Goes.step (fun _ k => XS.ifYes X1.here hx rfl (pc0 := 13) (pc' := 24) rfl (hb hby at_13) rfl ((if0 _ _).trans (flt (by decide : ¬ ((0 : Int32) < (0 : Int32)))).2.2.2) (by decide) (by decide) k) ?_
    show Goes p e below s _ _ _ T1 (mkF m 24 #[.val (.int p1), .val (.int p2), .val (.int p3), .val (.int p4), .val (.int p5), .val (.int p6), .val (.int (0 : Int32)), .val (.ref b1), .unset, .unset] [])
    refine Goes.step (fun _ k => XS.iload X1.here hx rfl (hb hby at_24) rfl k) ?_
    show Goes p e below s _ _ _ T1 (mkF m 26 #[.val (.int p1), .val (.int p2), .val (.int p3), .val (.int p4), .val (.int p5), .val (.int p6), .val (.int (0 : Int32)), .val (.ref b1), .unset, .unset] [(.int (0 : Int32))])
    refine Goes.step (fun _ k => XS.iconst X1.here hx rfl (hb hby at_26) k) ?_
    show Goes p e below s _ _ _ T1 (mkF m 27 #[.val (.int p1), .val (.int p2), .val (.int p3), .val (.int p4), .val (.int p5), .val (.int p6), .val (.int (0 : Int32)), .val (.ref b1), .unset, .unset] [(.int (1 : Int32)), (.int (0 : Int32))])
    refine Goes.step (fun _ k => XS.icmpYes X1.here hx rfl (pc0 := 27) (pc' := 38) rfl (hb hby at_27) rfl (flt (by decide : ¬ ((1 : Int32) < (0 : Int32)))).2.2.2 (by decide) (by decide) k) ?_
    show Goes p e below s _ _ _ T1 (mkF m 38 #[.val (.int p1), .val (.int p2), .val (.int p3), .val (.int p4), .val (.int p5), .val (.int p6), .val (.int (0 : Int32)), .val (.ref b1), .unset, .unset] [])
    refine Goes.step (fun _ k => XS.iload X1.here hx rfl (hb hby at_38) rfl k) ?_
    show Goes p e below s _ _ _ T1 (mkF m 40 #[.val (.int p1), .val (.int p2), .val (.int p3), .val (.int p4), .val (.int p5), .val (.int p6), .val (.int (0 : Int32)), .val (.ref b1), .unset, .unset] [(.int (0 : Int32))])
    refine Goes.step (fun _ k => XS.iconst X1.here hx rfl (hb hby at_40) k) ?_
    show Goes p e below s _ _ _ T1 (mkF m 41 #[.val (.int p1), .val (.int p2), .val (.int p3), .val (.int p4), .val (.int p5), .val (.int p6), .val (.int (0 : Int32)), .val (.ref b1), .unset, .unset] [(.int (2 : Int32)), (.int (0 : Int32))])
    refine Goes.step (fun _ k => XS.icmpYes X1.here hx rfl (pc0 := 41) (pc' := 52) rfl (hb hby at_41) rfl (flt (by decide : ¬ ((2 : Int32) < (0 : Int32)))).2.2.2 (by decide) (by decide) k) ?_
    show Goes p e below s _ _ _ T1 (mkF m 52 #[.val (.int p1), .val (.int p2), .val (.int p3), .val (.int p4), .val (.int p5), .val (.int p6), .val (.int (0 : Int32)), .val (.ref b1), .unset, .unset] [])
    refine Goes.step (fun _ k => XS.iconst X1.here hx rfl (hb hby at_52) k) ?_
    show Goes p e below s _ _ _ T1 (mkF m 53 #[.val (.int p1), .val (.int p2), .val (.int p3), .val (.int p4), .val (.int p5), .val (.int p6), .val (.int (0 : Int32)), .val (.ref b1), .unset, .unset] [(.int (3 : Int32))])
    obtain ⟨T2, h2, X2, e2, E2, A2, st2⟩ := newI X1 hx hZ (hw _ (List.mem_of_getElem? (i := 0) rfl)) e1 (g := (mkF m 53 #[.val (.int p1), .val (.int p2), .val (.int p3), .val (.int p4), .val (.int p5), .val (.int p6), .val (.int (0 : Int32)), .val (.ref b1), .unset, .unset] [(.int (3 : Int32))])) rfl (hb hby at_53) rfl (N := 3) rfl (cap := 3) (by decide) (by decide) (by decide) (by decide) rfl (by decide)
    obtain ⟨b2, g_2⟩ : ∃ z, z = h1.size := ⟨_, rfl⟩
    rw [← g_2] at A2 st2
    refine Goes.step st2 ?_
    have ne_b1_b2 : b1 ≠ b2 := Nat.ne_of_lt (by rw [g_2]; exact A_b1_1.lt)
    have ge_b2 : n0 ≤ b2 := by rw [g_2]; exact z_1
    have sz_b2 : h0.size ≤ b2 := by rw [g_2]; exact K_1.1
    have A_b1_2 := A_b1_1.ext E2
    have z_2 : n0 ≤ h2.size := Nat.le_trans z_1 E2.1
    have K_2 : Keep h0 h2 [] := K_1.ext E2
    have A_b2_2 : Ari Z h2 b2 .int (3) (fun _ => 0) := A2
    show Goes p e below s _ _ _ T2 (mkF m 55 #[.val (.int p1), .val (.int p2), .val (.int p3), .val (.int p4), .val (.int p5), .val (.int p6), .val (.int (0 : Int32)), .val (.ref b1), .unset, .unset] [(.ref b2)])
    refine Goes.step (fun _ k => XS.dup X2.here hx rfl (hb hby at_55) rfl rfl k) ?_
    show Goes p e below s _ _ _ T2 (mkF m 56 #[.val (.int p1), .val (.int p2), .val (.int p3), .val (.int p4), .val (.int p5), .val (.int p6), .val (.int (0 : Int32)), .val (.ref b1), .unset, .unset] [(.ref b2), (.ref b2)])
    refine Goes.step (fun _ k => XS.iconst X2.here hx rfl (hb hby at_56) k) ?_
    show Goes p e below s _ _ _ T2 (mkF m 57 #[.val (.int p1), .val (.int p2), .val (.int p3), .val (.int p4), .val (.int p5), .val (.int p6), .val (.int (0 : Int32)), .val (.ref b1), .unset, .unset] [(.int (0 : Int32)), (.ref b2), (.ref b2)])
    refine Goes.step (fun _ k => XS.iload X2.here hx rfl (hb hby at_57) rfl k) ?_
    show Goes p e below s _ _ _ T2 (mkF m 59 #[.val (.int p1), .val (.int p2), .val (.int p3), .val (.int p4), .val (.int p5), .val (.int p6), .val (.int (0 : Int32)), .val (.ref b1), .unset, .unset] [(.int p5), (.int (0 : Int32)), (.ref b2), (.ref b2)])
    obtain ⟨T3, h3, X3, e3, W3, A3, st3⟩ := stoI X2 hx hZ e2 A_b2_2 (0) rfl (by decide) (g := (mkF m 59 #[.val (.int p1), .val (.int p2), .val (.int p3), .val (.int p4), .val (.int p5), .val (.int p6), .val (.int (0 : Int32)), .val (.ref b1), .unset, .unset] [(.int p5), (.int (0 : Int32)), (.ref b2), (.ref b2)])) rfl rfl (hb hby at_59)
    refine Goes.step st3 ?_
    have A_b1_3 := A_b1_2.other W3 ne_b1_b2
    have z_3 : n0 ≤ h3.size := by rw [W3.size]; exact z_2
    have K_3 : Keep h0 h3 [] := K_2.wr W3 (Or.inr sz_b2)
    have N_3 := Fr.snoc X3 N0 ge_b2
    have A_b2_3 : Ari Z h3 b2 .int (3) (updI (fun _ => 0) (0) p5) := A3
    show Goes p e below s _ _ _ T3 (mkF m 60 #[.val (.int p1), .val (.int p2), .val (.int p3), .val (.int p4), .val (.int p5), .val (.int p6), .val (.int (0 : Int32)), .val (.ref b1), .unset, .unset] [(.ref b2)])
    refine Goes.step (fun _ k => XS.dup X3.here hx rfl (hb hby at_60) rfl rfl k) ?_
    show Goes p e below s _ _ _ T3 (mkF m 61 #[.val (.int p1), .val (.int p2), .val (.int p3), .val (.int p4), .val (.int p5), .val (.int p6), .val (.int (0 : Int32)), .val (.ref b1), .unset, .unset] [(.ref b2), (.ref b2)])
    refine Goes.step (fun _ k => XS.iconst X3.here hx rfl (hb hby at_61) k) ?_
    show Goes p e below s _ _ _ T3 (mkF m 62 #[.val (.int p1), .val (.int p2), .val (.int p3), .val (.int p4), .val (.int p5), .val (.int p6), .val (.int (0 : Int32)), .val (.ref b1), .unset, .unset] [(.int (1 : Int32)), (.ref b2), (.ref b2)])
    refine Goes.step (fun _ k => XS.iload X3.here hx rfl (hb hby at_62) rfl k) ?_
    show Goes p e below s _ _ _ T3 (mkF m 64 #[.val (.int p1), .val (.int p2), .val (.int p3), .val (.int p4), .val (.int p5), .val (.int p6), .val (.int (0 : Int32)), .val (.ref b1), .unset, .unset] [(.int p6), (.int (1 : Int32)), (.ref b2), (.ref b2)])
    obtain ⟨T4, h4, X4, e4, W4, A4, st4⟩ := stoI X3 hx hZ e3 A_b2_3 (1) rfl (by decide) (g := (mkF m 64 #[.val (.int p1), .val (.int p2), .val (.int p3), .val (.int p4), .val (.int p5), .val (.int p6), .val (.int (0 : Int32)), .val (.ref b1), .unset, .unset] [(.int p6), (.int (1 : Int32)), (.ref b2), (.ref b2)])) rfl rfl (hb hby at_64)
    refine Goes.step st4 ?_
    have A_b1_4 := A_b1_3.other W4 ne_b1_b2
    have z_4 : n0 ≤ h4.size := by rw [W4.size]; exact z_3
    have K_4 : Keep h0 h4 [] := K_3.wr W4 (Or.inr sz_b2)
    have N_4 := Fr.snoc X4 N_3 ge_b2
    have A_b2_4 : Ari Z h4 b2 .int (3) (updI (updI (fun _ => 0) (0) p5) (1) p6) := A4
    show Goes p e below s _ _ _ T4 (mkF m 65 #[.val (.int p1), .val (.int p2), .val (.int p3), .val (.int p4), .val (.int p5), .val (.int p6), .val (.int (0 : Int32)), .val (.ref b1), .unset, .unset] [(.ref b2)])
    refine Goes.step (fun _ k => XS.dup X4.here hx rfl (hb hby at_65) rfl rfl k) ?_
    show Goes p e below s _ _ _ T4 (mkF m 66 #[.val (.int p1), .val (.int p2), .val (.int p3), .val (.int p4), .val (.int p5), .val (.int p6), .val (.int (0 : Int32)), .val (.ref b1), .unset, .unset] [(.ref b2), (.ref b2)])
    refine Goes.step (fun _ k => XS.iconst X4.here hx rfl (hb hby at_66) k) ?_
    show Goes p e below s _ _ _ T4 (mkF m 67 #[.val (.int p1), .val (.int p2), .val (.int p3), .val (.int p4), .val (.int p5), .val (.int p6), .val (.int (0 : Int32)), .val (.ref b1), .unset, .unset] [(.int (2 : Int32)), (.ref b2), (.ref b2)])
    refine Goes.step (fun _ k => XS.iloadN X4.here hx rfl (hb hby at_67) rfl k) ?_
    show Goes p e below s _ _ _ T4 (mkF m 68 #[.val (.int p1), .val (.int p2), .val (.int p3), .val (.int p4), .val (.int p5), .val (.int p6), .val (.int (0 : Int32)), .val (.ref b1), .unset, .unset] [(.int p1), (.int (2 : Int32)), (.ref b2), (.ref b2)])
    obtain ⟨T5, h5, X5, e5, W5, A5, st5⟩ := stoI X4 hx hZ e4 A_b2_4 (2) rfl (by decide) (g := (mkF m 68 #[.val (.int p1), .val (.int p2), .val (.int p3), .val (.int p4), .val (.int p5), .val (.int p6), .val (.int (0 : Int32)), .val (.ref b1), .unset, .unset] [(.int p1), (.int (2 : Int32)), (.ref b2), (.ref b2)])) rfl rfl (hb hby at_68)
    refine Goes.step st5 ?_
    have A_b1_5 := A_b1_4.other W5 ne_b1_b2
    have z_5 : n0 ≤ h5.size := by rw [W5.size]; exact z_4
    have K_5 : Keep h0 h5 [] := K_4.wr W5 (Or.inr sz_b2)
    have N_5 := Fr.snoc X5 N_4 ge_b2
    have A_b2_5 : Ari Z h5 b2 .int (3) (updI (updI (updI (fun _ => 0) (0) p5) (1) p6) (2) p1) := A5
    show Goes p e below s _ _ _ T5 (mkF m 69 #[.val (.int p1), .val (.int p2), .val (.int p3), .val (.int p4), .val (.int p5), .val (.int p6), .val (.int (0 : Int32)), .val (.ref b1), .unset, .unset] [(.ref b2)])
    refine Goes.step (fun _ k => XS.astore X5.here hx rfl (hb hby at_69) rfl rfl (l' := #[.val (.int p1), .val (.int p2), .val (.int p3), .val (.int p4), .val (.int p5), .val (.int p6), .val (.int (0 : Int32)), .val (.ref b1), .val (.ref b2), .unset]) rfl k) ?_
    show Goes p e below s _ _ _ T5 (mkF m 71 #[.val (.int p1), .val (.int p2), .val (.int p3), .val (.int p4), .val (.int p5), .val (.int p6), .val (.int (0 : Int32)), .val (.ref b1), .val (.ref b2), .unset] [])
    refine Goes.step (fun _ k => XS.aload X5.here hx rfl (hb hby at_71) rfl rfl k) ?_
    show Goes p e below s _ _ _ T5 (mkF m 73 #[.val (.int p1), .val (.int p2), .val (.int p3), .val (.int p4), .val (.int p5), .val (.int p6), .val (.int (0 : Int32)), .val (.ref b1), .val (.ref b2), .unset] [(.ref b1)])
    refine Goes.step (fun _ k => XS.aload X5.here hx rfl (hb hby at_73) rfl rfl k) ?_
    show Goes p e below s _ _ _ T5 (mkF m 75 #[.val (.int p1), .val (.int p2), .val (.int p3), .val (.int p4), .val (.int p5), .val (.int p6), .val (.int (0 : Int32)), .val (.ref b1), .val (.ref b2), .unset] [(.ref b2), (.ref b1)])
    have AC := A_b1_5.cast (g := (own_codes p2 p3 p4)) (own_l0 (f2 p2) (f2 p3) (f2 p4))
    have AB := A_b2_5.cast (g := (own_bind p5 p6 p1)) (own_l3 p5 p6 p1)
    obtain ⟨v6, T6, h6, L6, X6, e6, Q6, st6⟩ := callX X5 hx hZ (y := (⟨"com/example/decompose/decompose/engine/Binder", "substitute", "([I[I)[I"⟩ : MethodName)) hown (hw _ (List.mem_of_getElem? (i := 1) rfl)) (hw _ (List.mem_of_getElem? (i := 2) rfl)) (hw _ (List.mem_of_getElem? (i := 3) rfl)) (hw _ (List.mem_of_getElem? (i := 4) rfl)) (by decide) (W := 0) (argsL := [(.ref b1), (.ref b2)]) (rest := []) (rm1 l Z a0 hw [] b1 b2 0 (own_codes p2 p3 p4) (own_bind p5 p6 p1) h5 n0 z_5 (by decide) (own_codes_lt p2 p3 p4 _) AC AB) (by decide) (by decide) (by decide) (by decide) e5 (g := (mkF m 75 #[.val (.int p1), .val (.int p2), .val (.int p3), .val (.int p4), .val (.int p5), .val (.int p6), .val (.int (0 : Int32)), .val (.ref b1), .val (.ref b2), .unset] [(.ref b2), (.ref b1)])) rfl (by rw [hml]; rfl) (lenOf pd_0_0 rfl) rfl (by show 2 * 0 + _ ≤ _; exact Nat.le_of_eq rfl) (hb hby at_75)
    obtain ⟨o6, rfl, NQ6, KQ6, so6, Ao6⟩ := Q6
    refine Goes.step st6 ?_
    have A_b1_6 := A_b1_5.keep KQ6 nin0
    have AB_6 := AB.keep KQ6 nin0
    have z_6 : n0 ≤ h6.size := Nat.le_trans z_5 KQ6.1
    have K_6 : Keep h0 h6 [] := Keep.trans K_5 KQ6 all0
    have N_6 := Fr.app N_5 NQ6
    show Goes p e below s _ _ _ T6 (mkF m 78 #[.val (.int p1), .val (.int p2), .val (.int p3), .val (.int p4), .val (.int p5), .val (.int p6), .val (.int (0 : Int32)), .val (.ref b1), .val (.ref b2), .unset] [(.ref o6)])
    refine Goes.step (fun _ k => XS.astore X6.here hx rfl (hb hby at_78) rfl rfl (l' := #[.val (.int p1), .val (.int p2), .val (.int p3), .val (.int p4), .val (.int p5), .val (.int p6), .val (.int (0 : Int32)), .val (.ref b1), .val (.ref b2), .val (.ref o6)]) rfl k) ?_
    show Goes p e below s _ _ _ T6 (mkF m 80 #[.val (.int p1), .val (.int p2), .val (.int p3), .val (.int p4), .val (.int p5), .val (.int p6), .val (.int (0 : Int32)), .val (.ref b1), .val (.ref b2), .val (.ref o6)] [])
    refine Goes.step (fun _ k => XS.aload X6.here hx rfl (hb hby at_80) rfl rfl k) ?_
    show Goes p e below s _ _ _ T6 (mkF m 82 #[.val (.int p1), .val (.int p2), .val (.int p3), .val (.int p4), .val (.int p5), .val (.int p6), .val (.int (0 : Int32)), .val (.ref b1), .val (.ref b2), .val (.ref o6)] [(.ref o6)])
    refine Goes.step (fun _ k => XS.ifnullNo X6.here hx rfl (hb hby at_82) rfl k) ?_
    show Goes p e below s _ _ _ T6 (mkF m 85 #[.val (.int p1), .val (.int p2), .val (.int p3), .val (.int p4), .val (.int p5), .val (.int p6), .val (.int (0 : Int32)), .val (.ref b1), .val (.ref b2), .val (.ref o6)] [])
    refine Goes.step (fun _ k => XS.aload X6.here hx rfl (hb hby at_85) rfl rfl k) ?_
    show Goes p e below s _ _ _ T6 (mkF m 87 #[.val (.int p1), .val (.int p2), .val (.int p3), .val (.int p4), .val (.int p5), .val (.int p6), .val (.int (0 : Int32)), .val (.ref b1), .val (.ref b2), .val (.ref o6)] [(.ref o6)])
    refine Goes.step (fun _ k => rdL X6 hx hZ e6 Ao6 (g := (mkF m 87 #[.val (.int p1), .val (.int p2), .val (.int p3), .val (.int p4), .val (.int p5), .val (.int p6), .val (.int (0 : Int32)), .val (.ref b1), .val (.ref b2), .val (.ref o6)] [(.ref o6)])) rfl rfl (hb hby at_87) _ k) ?_
    show Goes p e below s _ _ _ T6 (mkF m 88 #[.val (.int p1), .val (.int p2), .val (.int p3), .val (.int p4), .val (.int p5), .val (.int p6), .val (.int (0 : Int32)), .val (.ref b1), .val (.ref b2), .val (.ref o6)] [(.int (Int32.ofNat 0))])
    refine Goes.step (fun _ k => XS.iload X6.here hx rfl (hb hby at_88) rfl k) ?_
    show Goes p e below s _ _ _ T6 (mkF m 90 #[.val (.int p1), .val (.int p2), .val (.int p3), .val (.int p4), .val (.int p5), .val (.int p6), .val (.int (0 : Int32)), .val (.ref b1), .val (.ref b2), .val (.ref o6)] [(.int (0 : Int32)), (.int (Int32.ofNat 0))])
    refine Goes.step (fun _ k => XS.icmpYes X6.here hx rfl (pc0 := 90) (pc' := 95) rfl (hb hby at_90) rfl (teq (by decide : (Int32.ofNat 0) = (0 : Int32))).1 (by decide) (by decide) k) ?_
    show Goes p e below s _ _ _ T6 (mkF m 95 #[.val (.int p1), .val (.int p2), .val (.int p3), .val (.int p4), .val (.int p5), .val (.int p6), .val (.int (0 : Int32)), .val (.ref b1), .val (.ref b2), .val (.ref o6)] [])
    refine Goes.step (fun _ k => XS.iload X6.here hx rfl (hb hby at_95) rfl k) ?_
    show Goes p e below s _ _ _ T6 (mkF m 97 #[.val (.int p1), .val (.int p2), .val (.int p3), .val (.int p4), .val (.int p5), .val (.int p6), .val (.int (0 : Int32)), .val (.ref b1), .val (.ref b2), .val (.ref o6)] [(.int (0 : Int32))])
    refine Goes.step (fun _ k => XS.ifYes X6.here hx rfl (pc0 := 97) (pc' := 118) rfl (hb hby at_97) rfl ((if0 _ _).trans (flt (by decide : ¬ ((0 : Int32) < (0 : Int32)))).2.2.2) (by decide) (by decide) k) ?_
    show Goes p e below s _ _ _ T6 (mkF m 118 #[.val (.int p1), .val (.int p2), .val (.int p3), .val (.int p4), .val (.int p5), .val (.int p6), .val (.int (0 : Int32)), .val (.ref b1), .val (.ref b2), .val (.ref o6)] [])
    refine Goes.step (fun _ k => XS.iload X6.here hx rfl (hb hby at_118) rfl k) ?_
    show Goes p e below s _ _ _ T6 (mkF m 120 #[.val (.int p1), .val (.int p2), .val (.int p3), .val (.int p4), .val (.int p5), .val (.int p6), .val (.int (0 : Int32)), .val (.ref b1), .val (.ref b2), .val (.ref o6)] [(.int (0 : Int32))])
    refine Goes.step (fun _ k => XS.iconst X6.here hx rfl (hb hby at_120) k) ?_
    show Goes p e below s _ _ _ T6 (mkF m 121 #[.val (.int p1), .val (.int p2), .val (.int p3), .val (.int p4), .val (.int p5), .val (.int p6), .val (.int (0 : Int32)), .val (.ref b1), .val (.ref b2), .val (.ref o6)] [(.int (1 : Int32)), (.int (0 : Int32))])
    refine Goes.step (fun _ k => XS.icmpYes X6.here hx rfl (pc0 := 121) (pc' := 142) rfl (hb hby at_121) rfl (flt (by decide : ¬ ((1 : Int32) < (0 : Int32)))).2.2.2 (by decide) (by decide) k) ?_
    show Goes p e below s _ _ _ T6 (mkF m 142 #[.val (.int p1), .val (.int p2), .val (.int p3), .val (.int p4), .val (.int p5), .val (.int p6), .val (.int (0 : Int32)), .val (.ref b1), .val (.ref b2), .val (.ref o6)] [])
    refine Goes.step (fun _ k => XS.iload X6.here hx rfl (hb hby at_142) rfl k) ?_
    show Goes p e below s _ _ _ T6 (mkF m 144 #[.val (.int p1), .val (.int p2), .val (.int p3), .val (.int p4), .val (.int p5), .val (.int p6), .val (.int (0 : Int32)), .val (.ref b1), .val (.ref b2), .val (.ref o6)] [(.int (0 : Int32))])
    refine Goes.step (fun _ k => XS.iconst X6.here hx rfl (hb hby at_144) k) ?_
    show Goes p e below s _ _ _ T6 (mkF m 145 #[.val (.int p1), .val (.int p2), .val (.int p3), .val (.int p4), .val (.int p5), .val (.int p6), .val (.int (0 : Int32)), .val (.ref b1), .val (.ref b2), .val (.ref o6)] [(.int (2 : Int32)), (.int (0 : Int32))])
    refine Goes.step (fun _ k => XS.icmpYes X6.here hx rfl (pc0 := 145) (pc' := 166) rfl (hb hby at_145) rfl (flt (by decide : ¬ ((2 : Int32) < (0 : Int32)))).2.2.2 (by decide) (by decide) k) ?_
    show Goes p e below s _ _ _ T6 (mkF m 166 #[.val (.int p1), .val (.int p2), .val (.int p3), .val (.int p4), .val (.int p5), .val (.int p6), .val (.int (0 : Int32)), .val (.ref b1), .val (.ref b2), .val (.ref o6)] [])
    as_aux_lemma =>
      refine Goes.step (fun _ k => XS.aload X6.here hx rfl (hb hby at_166) rfl rfl k) ?_
      show Goes p e below s _ _ _ T6 (mkF m 168 #[.val (.int p1), .val (.int p2), .val (.int p3), .val (.int p4), .val (.int p5), .val (.int p6), .val (.int (0 : Int32)), .val (.ref b1), .val (.ref b2), .val (.ref o6)] [(.ref b2)])
      refine Goes.step (fun _ k => XS.iconst X6.here hx rfl (hb hby at_168) k) ?_
      show Goes p e below s _ _ _ T6 (mkF m 169 #[.val (.int p1), .val (.int p2), .val (.int p3), .val (.int p4), .val (.int p5), .val (.int p6), .val (.int (0 : Int32)), .val (.ref b1), .val (.ref b2), .val (.ref o6)] [(.int (0 : Int32)), (.ref b2)])
      refine Goes.step (fun _ k => rdI X6 hx hZ e6 AB_6 (0) rfl (by decide) (g := (mkF m 169 #[.val (.int p1), .val (.int p2), .val (.int p3), .val (.int p4), .val (.int p5), .val (.int p6), .val (.int (0 : Int32)), .val (.ref b1), .val (.ref b2), .val (.ref o6)] [(.int (0 : Int32)), (.ref b2)])) rfl rfl (hb hby at_169) _ k) ?_
      show Goes p e below s _ _ _ T6 (mkF m 170 #[.val (.int p1), .val (.int p2), .val (.int p3), .val (.int p4), .val (.int p5), .val (.int p6), .val (.int (0 : Int32)), .val (.ref b1), .val (.ref b2), .val (.ref o6)] [(.int ((own_bind p5 p6 p1) (0)))])
      refine Goes.step (fun _ k => XS.iload X6.here hx rfl (hb hby at_170) rfl k) ?_
      show Goes p e below s _ _ _ T6 (mkF m 172 #[.val (.int p1), .val (.int p2), .val (.int p3), .val (.int p4), .val (.int p5), .val (.int p6), .val (.int (0 : Int32)), .val (.ref b1), .val (.ref b2), .val (.ref o6)] [(.int p5), (.int ((own_bind p5 p6 p1) (0)))])
      refine Goes.step (fun _ k => XS.icmpNo X6.here hx rfl (hb hby at_172) rfl (teq (rfl : own_bind p5 p6 p1 0 = p5)).2 k) ?_
      show Goes p e below s _ _ _ T6 (mkF m 175 #[.val (.int p1), .val (.int p2), .val (.int p3), .val (.int p4), .val (.int p5), .val (.int p6), .val (.int (0 : Int32)), .val (.ref b1), .val (.ref b2), .val (.ref o6)] [])
      refine Goes.step (fun _ k => XS.aload X6.here hx rfl (hb hby at_175) rfl rfl k) ?_
      show Goes p e below s _ _ _ T6 (mkF m 177 #[.val (.int p1), .val (.int p2), .val (.int p3), .val (.int p4), .val (.int p5), .val (.int p6), .val (.int (0 : Int32)), .val (.ref b1), .val (.ref b2), .val (.ref o6)] [(.ref b2)])
      refine Goes.step (fun _ k => XS.iconst X6.here hx rfl (hb hby at_177) k) ?_
      show Goes p e below s _ _ _ T6 (mkF m 178 #[.val (.int p1), .val (.int p2), .val (.int p3), .val (.int p4), .val (.int p5), .val (.int p6), .val (.int (0 : Int32)), .val (.ref b1), .val (.ref b2), .val (.ref o6)] [(.int (1 : Int32)), (.ref b2)])
      refine Goes.step (fun _ k => rdI X6 hx hZ e6 AB_6 (1) rfl (by decide) (g := (mkF m 178 #[.val (.int p1), .val (.int p2), .val (.int p3), .val (.int p4), .val (.int p5), .val (.int p6), .val (.int (0 : Int32)), .val (.ref b1), .val (.ref b2), .val (.ref o6)] [(.int (1 : Int32)), (.ref b2)])) rfl rfl (hb hby at_178) _ k) ?_
      show Goes p e below s _ _ _ T6 (mkF m 179 #[.val (.int p1), .val (.int p2), .val (.int p3), .val (.int p4), .val (.int p5), .val (.int p6), .val (.int (0 : Int32)), .val (.ref b1), .val (.ref b2), .val (.ref o6)] [(.int ((own_bind p5 p6 p1) (1)))])
      refine Goes.step (fun _ k => XS.iload X6.here hx rfl (hb hby at_179) rfl k) ?_
      show Goes p e below s _ _ _ T6 (mkF m 181 #[.val (.int p1), .val (.int p2), .val (.int p3), .val (.int p4), .val (.int p5), .val (.int p6), .val (.int (0 : Int32)), .val (.ref b1), .val (.ref b2), .val (.ref o6)] [(.int p6), (.int ((own_bind p5 p6 p1) (1)))])
      refine Goes.step (fun _ k => XS.icmpNo X6.here hx rfl (hb hby at_181) rfl (teq (rfl : own_bind p5 p6 p1 1 = p6)).2 k) ?_
      show Goes p e below s _ _ _ T6 (mkF m 184 #[.val (.int p1), .val (.int p2), .val (.int p3), .val (.int p4), .val (.int p5), .val (.int p6), .val (.int (0 : Int32)), .val (.ref b1), .val (.ref b2), .val (.ref o6)] [])
      refine Goes.step (fun _ k => XS.aload X6.here hx rfl (hb hby at_184) rfl rfl k) ?_
      show Goes p e below s _ _ _ T6 (mkF m 186 #[.val (.int p1), .val (.int p2), .val (.int p3), .val (.int p4), .val (.int p5), .val (.int p6), .val (.int (0 : Int32)), .val (.ref b1), .val (.ref b2), .val (.ref o6)] [(.ref b2)])
      refine Goes.step (fun _ k => XS.iconst X6.here hx rfl (hb hby at_186) k) ?_
      show Goes p e below s _ _ _ T6 (mkF m 187 #[.val (.int p1), .val (.int p2), .val (.int p3), .val (.int p4), .val (.int p5), .val (.int p6), .val (.int (0 : Int32)), .val (.ref b1), .val (.ref b2), .val (.ref o6)] [(.int (2 : Int32)), (.ref b2)])
      refine Goes.step (fun _ k => rdI X6 hx hZ e6 AB_6 (2) rfl (by decide) (g := (mkF m 187 #[.val (.int p1), .val (.int p2), .val (.int p3), .val (.int p4), .val (.int p5), .val (.int p6), .val (.int (0 : Int32)), .val (.ref b1), .val (.ref b2), .val (.ref o6)] [(.int (2 : Int32)), (.ref b2)])) rfl rfl (hb hby at_187) _ k) ?_
      show Goes p e below s _ _ _ T6 (mkF m 188 #[.val (.int p1), .val (.int p2), .val (.int p3), .val (.int p4), .val (.int p5), .val (.int p6), .val (.int (0 : Int32)), .val (.ref b1), .val (.ref b2), .val (.ref o6)] [(.int ((own_bind p5 p6 p1) (2)))])
      refine Goes.step (fun _ k => XS.iloadN X6.here hx rfl (hb hby at_188) rfl k) ?_
      show Goes p e below s _ _ _ T6 (mkF m 189 #[.val (.int p1), .val (.int p2), .val (.int p3), .val (.int p4), .val (.int p5), .val (.int p6), .val (.int (0 : Int32)), .val (.ref b1), .val (.ref b2), .val (.ref o6)] [(.int p1), (.int ((own_bind p5 p6 p1) (2)))])
      refine Goes.step (fun _ k => XS.icmpNo X6.here hx rfl (hb hby at_189) rfl (teq (rfl : own_bind p5 p6 p1 2 = p1)).2 k) ?_
      show Goes p e below s _ _ _ T6 (mkF m 192 #[.val (.int p1), .val (.int p2), .val (.int p3), .val (.int p4), .val (.int p5), .val (.int p6), .val (.int (0 : Int32)), .val (.ref b1), .val (.ref b2), .val (.ref o6)] [])
      refine Goes.step (fun _ k => XS.iconst X6.here hx rfl (hb hby at_192) k) ?_
      show Goes p e below s _ _ _ T6 (mkF m 193 #[.val (.int p1), .val (.int p2), .val (.int p3), .val (.int p4), .val (.int p5), .val (.int p6), .val (.int (0 : Int32)), .val (.ref b1), .val (.ref b2), .val (.ref o6)] [(.int (1 : Int32))])
      refine Goes.step (fun _ k => XS.goto X6.here hx rfl (pc0 := 193) (pc' := 197) rfl (hb hby at_193) (by decide) (by decide) k) ?_
      show Goes p e below s _ _ _ T6 (mkF m 197 #[.val (.int p1), .val (.int p2), .val (.int p3), .val (.int p4), .val (.int p5), .val (.int p6), .val (.int (0 : Int32)), .val (.ref b1), .val (.ref b2), .val (.ref o6)] [(.int (1 : Int32))])
      exact Goes.outN X6 hx hlk (t := .boolean) Bd.returns (by simp) (hb hby at_197) ⟨rfl, N_6⟩ (by decide) (by decide)
  · rw [hq]
    refine Goes.step (fun _ k => XS.istore X0.here hx rfl (hb hby at_3) rfl (l' := #[.val (.int p1), .val (.int p2), .val (.int p3), .val (.int p4), .val (.int p5), .val (.int p6), .val (.int (1 : Int32)), .unset, .unset, .unset]) rfl k) ?_
    show Goes p e below s _ _ _ s₁ (mkF m 5 #[.val (.int p1), .val (.int p2), .val (.int p3), .val (.int p4), .val (.int p5), .val (.int p6), .val (.int (1 : Int32)), .unset, .unset, .unset] [])
    refine Goes.step (fun _ k => XS.iload X0.here hx rfl (hb hby at_5) rfl k) ?_
    show Goes p e below s _ _ _ s₁ (mkF m 7 #[.val (.int p1), .val (.int p2), .val (.int p3), .val (.int p4), .val (.int p5), .val (.int p6), .val (.int (1 : Int32)), .unset, .unset, .unset] [(.int (1 : Int32))])
    obtain ⟨T7, h7, X7, e7, E7, A7, st7⟩ := newI X0 hx hZ (hw _ (List.mem_of_getElem? (i := 0) rfl)) e0 (g := (mkF m 7 #[.val (.int p1), .val (.int p2), .val (.int p3), .val (.int p4), .val (.int p5), .val (.int p6), .val (.int (1 : Int32)), .unset, .unset, .unset] [(.int (1 : Int32))])) rfl (hb hby at_7) rfl (N := 1) rfl (cap := 1) (by decide) (by decide) (by decide) (by decide) rfl (by decide)
    obtain ⟨b7, g_7⟩ : ∃ z, z = h0.size := ⟨_, rfl⟩
    rw [← g_7] at A7 st7
    refine Goes.step st7 ?_
    have ge_b7 : n0 ≤ b7 := by rw [g_7]; exact Z0
    have sz_b7 : h0.size ≤ b7 := by rw [g_7]; exact K0.1
    have z_7 : n0 ≤ h7.size := Nat.le_trans Z0 E7.1
    have K_7 : Keep h0 h7 [] := K0.ext E7
    have A_b7_7 : Ari Z h7 b7 .int (1) (fun _ => 0) := A7
    show Goes p e below s _ _ _ T7 (mkF m 9 #[.val (.int p1), .val (.int p2), .val (.int p3), .val (.int p4), .val (.int p5), .val (.int p6), .val (.int (1 : Int32)), .unset, .unset, .unset] [(.ref b7)])
    refine Goes.step (fun _ k => XS.astore X7.here hx rfl (hb hby at_9) rfl rfl (l' := #[.val (.int p1), .val (.int p2), .val (.int p3), .val (.int p4), .val (.int p5), .val (.int p6), .val (.int (1 : Int32)), .val (.ref b7), .unset, .unset]) rfl k) ?_
    show Goes p e below s _ _ _ T7 (mkF m 11 #[.val (.int p1), .val (.int p2), .val (.int p3), .val (.int p4), .val (.int p5), .val (.int p6), .val (.int (1 : Int32)), .val (.ref b7), .unset, .unset] [])
    refine Goes.step (fun _ k => XS.iload X7.here hx rfl (hb hby at_11) rfl k) ?_
    show Goes p e below s _ _ _ T7 (mkF m 13 #[.val (.int p1), .val (.int p2), .val (.int p3), .val (.int p4), .val (.int p5), .val (.int p6), .val (.int (1 : Int32)), .val (.ref b7), .unset, .unset] [(.int (1 : Int32))])
    refine Goes.step (fun _ k => XS.ifNo X7.here hx rfl (hb hby at_13) rfl ((if0 _ _).trans (tlt (by decide : (0 : Int32) < (1 : Int32))).2.2.2) k) ?_
    show Goes p e below s _ _ _ T7 (mkF m 16 #[.val (.int p1), .val (.int p2), .val (.int p3), .val (.int p4), .val (.int p5), .val (.int p6), .val (.int (1 : Int32)), .val (.ref b7), .unset, .unset] [])
    refine Goes.step (fun _ k => XS.aload X7.here hx rfl (hb hby at_16) rfl rfl k) ?_
    show Goes p e below s _ _ _ T7 (mkF m 18 #[.val (.int p1), .val (.int p2), .val (.int p3), .val (.int p4), .val (.int p5), .val (.int p6), .val (.int (1 : Int32)), .val (.ref b7), .unset, .unset] [(.ref b7)])
    refine Goes.step (fun _ k => XS.iconst X7.here hx rfl (hb hby at_18) k) ?_
    show Goes p e below s _ _ _ T7 (mkF m 19 #[.val (.int p1), .val (.int p2), .val (.int p3), .val (.int p4), .val (.int p5), .val (.int p6), .val (.int (1 : Int32)), .val (.ref b7), .unset, .unset] [(.int (0 : Int32)), (.ref b7)])
    refine Goes.step (fun _ k => XS.iloadN X7.here hx rfl (hb hby at_19) rfl k) ?_
    show Goes p e below s _ _ _ T7 (mkF m 20 #[.val (.int p1), .val (.int p2), .val (.int p3), .val (.int p4), .val (.int p5), .val (.int p6), .val (.int (1 : Int32)), .val (.ref b7), .unset, .unset] [(.int p2), (.int (0 : Int32)), (.ref b7)])
    obtain ⟨T8, X8, e8, st8⟩ := callPure X7 hx hZ (y := (⟨"com/example/decompose/decompose/engine/BinderSubstitutePinLaw", "code", "(I)I"⟩ : MethodName)) hown (hw _ (List.mem_of_getElem? (i := 5) rfl)) (hw _ (List.mem_of_getElem? (i := 6) rfl)) (hw _ (List.mem_of_getElem? (i := 7) rfl)) (hw _ (List.mem_of_getElem? (i := 8) rfl)) (by decide) (W := 2) (argsL := [(.int p2)]) (rest := [(.int (0 : Int32)), (.ref b7)]) (r := (.int (f2 p2))) (fun _ _ _ q => q) (rm2 l Z a0 hw [] p2 h7 ) (by decide) (by decide) (by decide) (by decide) e7 (g := (mkF m 20 #[.val (.int p1), .val (.int p2), .val (.int p3), .val (.int p4), .val (.int p5), .val (.int p6), .val (.int (1 : Int32)), .val (.ref b7), .unset, .unset] [(.int p2), (.int (0 : Int32)), (.ref b7)])) rfl (by rw [hml]; rfl) (lenOf pd_0_1 rfl) rfl (by show 2 * 0 + _ ≤ _; exact Nat.le_of_eq rfl) (hb hby at_20)
    refine Goes.step st8 ?_
    show Goes p e below s _ _ _ T8 (mkF m 23 #[.val (.int p1), .val (.int p2), .val (.int p3), .val (.int p4), .val (.int p5), .val (.int p6), .val (.int (1 : Int32)), .val (.ref b7), .unset, .unset] [(.int (f2 p2)), (.int (0 : Int32)), (.ref b7)])
    obtain ⟨T9, h9, X9, e9, W9, A9, st9⟩ := stoI X8 hx hZ e8 A_b7_7 (0) rfl (by decide) (g := (mkF m 23 #[.val (.int p1), .val (.int p2), .val (.int p3), .val (.int p4), .val (.int p5), .val (.int p6), .val (.int (1 : Int32)), .val (.ref b7), .unset, .unset] [(.int (f2 p2)), (.int (0 : Int32)), (.ref b7)])) rfl rfl (hb hby at_23)
    refine Goes.step st9 ?_
    have z_9 : n0 ≤ h9.size := by rw [W9.size]; exact z_7
    have K_9 : Keep h0 h9 [] := K_7.wr W9 (Or.inr sz_b7)
    have N_9 := Fr.snoc X9 N0 ge_b7
    have A_b7_9 : Ari Z h9 b7 .int (1) (updI (fun _ => 0) (0) (f2 p2)) := A9
    show Goes p e below s _ _ _ T9 (mkF m 24 #[.val (.int p1), .val (.int p2), .val (.int p3), .val (.int p4), .val (.int p5), .val (.int p6), .val (.int (1 : Int32)), .val (.ref b7), .unset, .unset] [])
    refine Goes.step (fun _ k => XS.iload X9.here hx rfl (hb hby at_24) rfl k) ?_
    show Goes p e below s _ _ _ T9 (mkF m 26 #[.val (.int p1), .val (.int p2), .val (.int p3), .val (.int p4), .val (.int p5), .val (.int p6), .val (.int (1 : Int32)), .val (.ref b7), .unset, .unset] [(.int (1 : Int32))])
    refine Goes.step (fun _ k => XS.iconst X9.here hx rfl (hb hby at_26) k) ?_
    show Goes p e below s _ _ _ T9 (mkF m 27 #[.val (.int p1), .val (.int p2), .val (.int p3), .val (.int p4), .val (.int p5), .val (.int p6), .val (.int (1 : Int32)), .val (.ref b7), .unset, .unset] [(.int (1 : Int32)), (.int (1 : Int32))])
    refine Goes.step (fun _ k => XS.icmpYes X9.here hx rfl (pc0 := 27) (pc' := 38) rfl (hb hby at_27) rfl (flt (by decide : ¬ ((1 : Int32) < (1 : Int32)))).2.2.2 (by decide) (by decide) k) ?_
    show Goes p e below s _ _ _ T9 (mkF m 38 #[.val (.int p1), .val (.int p2), .val (.int p3), .val (.int p4), .val (.int p5), .val (.int p6), .val (.int (1 : Int32)), .val (.ref b7), .unset, .unset] [])
    refine Goes.step (fun _ k => XS.iload X9.here hx rfl (hb hby at_38) rfl k) ?_
    show Goes p e below s _ _ _ T9 (mkF m 40 #[.val (.int p1), .val (.int p2), .val (.int p3), .val (.int p4), .val (.int p5), .val (.int p6), .val (.int (1 : Int32)), .val (.ref b7), .unset, .unset] [(.int (1 : Int32))])
    refine Goes.step (fun _ k => XS.iconst X9.here hx rfl (hb hby at_40) k) ?_
    show Goes p e below s _ _ _ T9 (mkF m 41 #[.val (.int p1), .val (.int p2), .val (.int p3), .val (.int p4), .val (.int p5), .val (.int p6), .val (.int (1 : Int32)), .val (.ref b7), .unset, .unset] [(.int (2 : Int32)), (.int (1 : Int32))])
    refine Goes.step (fun _ k => XS.icmpYes X9.here hx rfl (pc0 := 41) (pc' := 52) rfl (hb hby at_41) rfl (flt (by decide : ¬ ((2 : Int32) < (1 : Int32)))).2.2.2 (by decide) (by decide) k) ?_
    show Goes p e below s _ _ _ T9 (mkF m 52 #[.val (.int p1), .val (.int p2), .val (.int p3), .val (.int p4), .val (.int p5), .val (.int p6), .val (.int (1 : Int32)), .val (.ref b7), .unset, .unset] [])
    refine Goes.step (fun _ k => XS.iconst X9.here hx rfl (hb hby at_52) k) ?_
    show Goes p e below s _ _ _ T9 (mkF m 53 #[.val (.int p1), .val (.int p2), .val (.int p3), .val (.int p4), .val (.int p5), .val (.int p6), .val (.int (1 : Int32)), .val (.ref b7), .unset, .unset] [(.int (3 : Int32))])
    obtain ⟨T10, h10, X10, e10, E10, A10, st10⟩ := newI X9 hx hZ (hw _ (List.mem_of_getElem? (i := 0) rfl)) e9 (g := (mkF m 53 #[.val (.int p1), .val (.int p2), .val (.int p3), .val (.int p4), .val (.int p5), .val (.int p6), .val (.int (1 : Int32)), .val (.ref b7), .unset, .unset] [(.int (3 : Int32))])) rfl (hb hby at_53) rfl (N := 3) rfl (cap := 3) (by decide) (by decide) (by decide) (by decide) rfl (by decide)
    obtain ⟨b10, g_10⟩ : ∃ z, z = h9.size := ⟨_, rfl⟩
    rw [← g_10] at A10 st10
    refine Goes.step st10 ?_
    have ne_b7_b10 : b7 ≠ b10 := Nat.ne_of_lt (by rw [g_10]; exact A_b7_9.lt)
    have ge_b10 : n0 ≤ b10 := by rw [g_10]; exact z_9
    have sz_b10 : h0.size ≤ b10 := by rw [g_10]; exact K_9.1
    have A_b7_10 := A_b7_9.ext E10
    have z_10 : n0 ≤ h10.size := Nat.le_trans z_9 E10.1
    have K_10 : Keep h0 h10 [] := K_9.ext E10
    have A_b10_10 : Ari Z h10 b10 .int (3) (fun _ => 0) := A10
    show Goes p e below s _ _ _ T10 (mkF m 55 #[.val (.int p1), .val (.int p2), .val (.int p3), .val (.int p4), .val (.int p5), .val (.int p6), .val (.int (1 : Int32)), .val (.ref b7), .unset, .unset] [(.ref b10)])
    refine Goes.step (fun _ k => XS.dup X10.here hx rfl (hb hby at_55) rfl rfl k) ?_
    show Goes p e below s _ _ _ T10 (mkF m 56 #[.val (.int p1), .val (.int p2), .val (.int p3), .val (.int p4), .val (.int p5), .val (.int p6), .val (.int (1 : Int32)), .val (.ref b7), .unset, .unset] [(.ref b10), (.ref b10)])
    refine Goes.step (fun _ k => XS.iconst X10.here hx rfl (hb hby at_56) k) ?_
    show Goes p e below s _ _ _ T10 (mkF m 57 #[.val (.int p1), .val (.int p2), .val (.int p3), .val (.int p4), .val (.int p5), .val (.int p6), .val (.int (1 : Int32)), .val (.ref b7), .unset, .unset] [(.int (0 : Int32)), (.ref b10), (.ref b10)])
    refine Goes.step (fun _ k => XS.iload X10.here hx rfl (hb hby at_57) rfl k) ?_
    show Goes p e below s _ _ _ T10 (mkF m 59 #[.val (.int p1), .val (.int p2), .val (.int p3), .val (.int p4), .val (.int p5), .val (.int p6), .val (.int (1 : Int32)), .val (.ref b7), .unset, .unset] [(.int p5), (.int (0 : Int32)), (.ref b10), (.ref b10)])
    obtain ⟨T11, h11, X11, e11, W11, A11, st11⟩ := stoI X10 hx hZ e10 A_b10_10 (0) rfl (by decide) (g := (mkF m 59 #[.val (.int p1), .val (.int p2), .val (.int p3), .val (.int p4), .val (.int p5), .val (.int p6), .val (.int (1 : Int32)), .val (.ref b7), .unset, .unset] [(.int p5), (.int (0 : Int32)), (.ref b10), (.ref b10)])) rfl rfl (hb hby at_59)
    refine Goes.step st11 ?_
    have A_b7_11 := A_b7_10.other W11 ne_b7_b10
    have z_11 : n0 ≤ h11.size := by rw [W11.size]; exact z_10
    have K_11 : Keep h0 h11 [] := K_10.wr W11 (Or.inr sz_b10)
    have N_11 := Fr.snoc X11 N_9 ge_b10
    have A_b10_11 : Ari Z h11 b10 .int (3) (updI (fun _ => 0) (0) p5) := A11
    show Goes p e below s _ _ _ T11 (mkF m 60 #[.val (.int p1), .val (.int p2), .val (.int p3), .val (.int p4), .val (.int p5), .val (.int p6), .val (.int (1 : Int32)), .val (.ref b7), .unset, .unset] [(.ref b10)])
    refine Goes.step (fun _ k => XS.dup X11.here hx rfl (hb hby at_60) rfl rfl k) ?_
    show Goes p e below s _ _ _ T11 (mkF m 61 #[.val (.int p1), .val (.int p2), .val (.int p3), .val (.int p4), .val (.int p5), .val (.int p6), .val (.int (1 : Int32)), .val (.ref b7), .unset, .unset] [(.ref b10), (.ref b10)])
    refine Goes.step (fun _ k => XS.iconst X11.here hx rfl (hb hby at_61) k) ?_
    show Goes p e below s _ _ _ T11 (mkF m 62 #[.val (.int p1), .val (.int p2), .val (.int p3), .val (.int p4), .val (.int p5), .val (.int p6), .val (.int (1 : Int32)), .val (.ref b7), .unset, .unset] [(.int (1 : Int32)), (.ref b10), (.ref b10)])
    refine Goes.step (fun _ k => XS.iload X11.here hx rfl (hb hby at_62) rfl k) ?_
    show Goes p e below s _ _ _ T11 (mkF m 64 #[.val (.int p1), .val (.int p2), .val (.int p3), .val (.int p4), .val (.int p5), .val (.int p6), .val (.int (1 : Int32)), .val (.ref b7), .unset, .unset] [(.int p6), (.int (1 : Int32)), (.ref b10), (.ref b10)])
    obtain ⟨T12, h12, X12, e12, W12, A12, st12⟩ := stoI X11 hx hZ e11 A_b10_11 (1) rfl (by decide) (g := (mkF m 64 #[.val (.int p1), .val (.int p2), .val (.int p3), .val (.int p4), .val (.int p5), .val (.int p6), .val (.int (1 : Int32)), .val (.ref b7), .unset, .unset] [(.int p6), (.int (1 : Int32)), (.ref b10), (.ref b10)])) rfl rfl (hb hby at_64)
    refine Goes.step st12 ?_
    have A_b7_12 := A_b7_11.other W12 ne_b7_b10
    have z_12 : n0 ≤ h12.size := by rw [W12.size]; exact z_11
    have K_12 : Keep h0 h12 [] := K_11.wr W12 (Or.inr sz_b10)
    have N_12 := Fr.snoc X12 N_11 ge_b10
    have A_b10_12 : Ari Z h12 b10 .int (3) (updI (updI (fun _ => 0) (0) p5) (1) p6) := A12
    show Goes p e below s _ _ _ T12 (mkF m 65 #[.val (.int p1), .val (.int p2), .val (.int p3), .val (.int p4), .val (.int p5), .val (.int p6), .val (.int (1 : Int32)), .val (.ref b7), .unset, .unset] [(.ref b10)])
    refine Goes.step (fun _ k => XS.dup X12.here hx rfl (hb hby at_65) rfl rfl k) ?_
    show Goes p e below s _ _ _ T12 (mkF m 66 #[.val (.int p1), .val (.int p2), .val (.int p3), .val (.int p4), .val (.int p5), .val (.int p6), .val (.int (1 : Int32)), .val (.ref b7), .unset, .unset] [(.ref b10), (.ref b10)])
    refine Goes.step (fun _ k => XS.iconst X12.here hx rfl (hb hby at_66) k) ?_
    show Goes p e below s _ _ _ T12 (mkF m 67 #[.val (.int p1), .val (.int p2), .val (.int p3), .val (.int p4), .val (.int p5), .val (.int p6), .val (.int (1 : Int32)), .val (.ref b7), .unset, .unset] [(.int (2 : Int32)), (.ref b10), (.ref b10)])
    refine Goes.step (fun _ k => XS.iloadN X12.here hx rfl (hb hby at_67) rfl k) ?_
    show Goes p e below s _ _ _ T12 (mkF m 68 #[.val (.int p1), .val (.int p2), .val (.int p3), .val (.int p4), .val (.int p5), .val (.int p6), .val (.int (1 : Int32)), .val (.ref b7), .unset, .unset] [(.int p1), (.int (2 : Int32)), (.ref b10), (.ref b10)])
    obtain ⟨T13, h13, X13, e13, W13, A13, st13⟩ := stoI X12 hx hZ e12 A_b10_12 (2) rfl (by decide) (g := (mkF m 68 #[.val (.int p1), .val (.int p2), .val (.int p3), .val (.int p4), .val (.int p5), .val (.int p6), .val (.int (1 : Int32)), .val (.ref b7), .unset, .unset] [(.int p1), (.int (2 : Int32)), (.ref b10), (.ref b10)])) rfl rfl (hb hby at_68)
    refine Goes.step st13 ?_
    have A_b7_13 := A_b7_12.other W13 ne_b7_b10
    have z_13 : n0 ≤ h13.size := by rw [W13.size]; exact z_12
    have K_13 : Keep h0 h13 [] := K_12.wr W13 (Or.inr sz_b10)
    have N_13 := Fr.snoc X13 N_12 ge_b10
    have A_b10_13 : Ari Z h13 b10 .int (3) (updI (updI (updI (fun _ => 0) (0) p5) (1) p6) (2) p1) := A13
    show Goes p e below s _ _ _ T13 (mkF m 69 #[.val (.int p1), .val (.int p2), .val (.int p3), .val (.int p4), .val (.int p5), .val (.int p6), .val (.int (1 : Int32)), .val (.ref b7), .unset, .unset] [(.ref b10)])
    refine Goes.step (fun _ k => XS.astore X13.here hx rfl (hb hby at_69) rfl rfl (l' := #[.val (.int p1), .val (.int p2), .val (.int p3), .val (.int p4), .val (.int p5), .val (.int p6), .val (.int (1 : Int32)), .val (.ref b7), .val (.ref b10), .unset]) rfl k) ?_
    show Goes p e below s _ _ _ T13 (mkF m 71 #[.val (.int p1), .val (.int p2), .val (.int p3), .val (.int p4), .val (.int p5), .val (.int p6), .val (.int (1 : Int32)), .val (.ref b7), .val (.ref b10), .unset] [])
    refine Goes.step (fun _ k => XS.aload X13.here hx rfl (hb hby at_71) rfl rfl k) ?_
    show Goes p e below s _ _ _ T13 (mkF m 73 #[.val (.int p1), .val (.int p2), .val (.int p3), .val (.int p4), .val (.int p5), .val (.int p6), .val (.int (1 : Int32)), .val (.ref b7), .val (.ref b10), .unset] [(.ref b7)])
    refine Goes.step (fun _ k => XS.aload X13.here hx rfl (hb hby at_73) rfl rfl k) ?_
    show Goes p e below s _ _ _ T13 (mkF m 75 #[.val (.int p1), .val (.int p2), .val (.int p3), .val (.int p4), .val (.int p5), .val (.int p6), .val (.int (1 : Int32)), .val (.ref b7), .val (.ref b10), .unset] [(.ref b10), (.ref b7)])
    have AC := A_b7_13.cast (g := (own_codes p2 p3 p4)) (own_l1 (f2 p2) (f2 p3) (f2 p4))
    have AB := A_b10_13.cast (g := (own_bind p5 p6 p1)) (own_l3 p5 p6 p1)
    obtain ⟨v14, T14, h14, L14, X14, e14, Q14, st14⟩ := callX X13 hx hZ (y := (⟨"com/example/decompose/decompose/engine/Binder", "substitute", "([I[I)[I"⟩ : MethodName)) hown (hw _ (List.mem_of_getElem? (i := 1) rfl)) (hw _ (List.mem_of_getElem? (i := 2) rfl)) (hw _ (List.mem_of_getElem? (i := 3) rfl)) (hw _ (List.mem_of_getElem? (i := 4) rfl)) (by decide) (W := 0) (argsL := [(.ref b7), (.ref b10)]) (rest := []) (rm1 l Z a0 hw [] b7 b10 1 (own_codes p2 p3 p4) (own_bind p5 p6 p1) h13 n0 z_13 (by decide) (own_codes_lt p2 p3 p4 _) AC AB) (by decide) (by decide) (by decide) (by decide) e13 (g := (mkF m 75 #[.val (.int p1), .val (.int p2), .val (.int p3), .val (.int p4), .val (.int p5), .val (.int p6), .val (.int (1 : Int32)), .val (.ref b7), .val (.ref b10), .unset] [(.ref b10), (.ref b7)])) rfl (by rw [hml]; rfl) (lenOf pd_0_0 rfl) rfl (by show 2 * 0 + _ ≤ _; exact Nat.le_of_eq rfl) (hb hby at_75)
    obtain ⟨o14, rfl, NQ14, KQ14, so14, Ao14⟩ := Q14
    refine Goes.step st14 ?_
    have A_b7_14 := A_b7_13.keep KQ14 nin0
    have AB_14 := AB.keep KQ14 nin0
    have z_14 : n0 ≤ h14.size := Nat.le_trans z_13 KQ14.1
    have K_14 : Keep h0 h14 [] := Keep.trans K_13 KQ14 all0
    have N_14 := Fr.app N_13 NQ14
    show Goes p e below s _ _ _ T14 (mkF m 78 #[.val (.int p1), .val (.int p2), .val (.int p3), .val (.int p4), .val (.int p5), .val (.int p6), .val (.int (1 : Int32)), .val (.ref b7), .val (.ref b10), .unset] [(.ref o14)])
    refine Goes.step (fun _ k => XS.astore X14.here hx rfl (hb hby at_78) rfl rfl (l' := #[.val (.int p1), .val (.int p2), .val (.int p3), .val (.int p4), .val (.int p5), .val (.int p6), .val (.int (1 : Int32)), .val (.ref b7), .val (.ref b10), .val (.ref o14)]) rfl k) ?_
    show Goes p e below s _ _ _ T14 (mkF m 80 #[.val (.int p1), .val (.int p2), .val (.int p3), .val (.int p4), .val (.int p5), .val (.int p6), .val (.int (1 : Int32)), .val (.ref b7), .val (.ref b10), .val (.ref o14)] [])
    refine Goes.step (fun _ k => XS.aload X14.here hx rfl (hb hby at_80) rfl rfl k) ?_
    show Goes p e below s _ _ _ T14 (mkF m 82 #[.val (.int p1), .val (.int p2), .val (.int p3), .val (.int p4), .val (.int p5), .val (.int p6), .val (.int (1 : Int32)), .val (.ref b7), .val (.ref b10), .val (.ref o14)] [(.ref o14)])
    refine Goes.step (fun _ k => XS.ifnullNo X14.here hx rfl (hb hby at_82) rfl k) ?_
    show Goes p e below s _ _ _ T14 (mkF m 85 #[.val (.int p1), .val (.int p2), .val (.int p3), .val (.int p4), .val (.int p5), .val (.int p6), .val (.int (1 : Int32)), .val (.ref b7), .val (.ref b10), .val (.ref o14)] [])
    refine Goes.step (fun _ k => XS.aload X14.here hx rfl (hb hby at_85) rfl rfl k) ?_
    show Goes p e below s _ _ _ T14 (mkF m 87 #[.val (.int p1), .val (.int p2), .val (.int p3), .val (.int p4), .val (.int p5), .val (.int p6), .val (.int (1 : Int32)), .val (.ref b7), .val (.ref b10), .val (.ref o14)] [(.ref o14)])
    refine Goes.step (fun _ k => rdL X14 hx hZ e14 Ao14 (g := (mkF m 87 #[.val (.int p1), .val (.int p2), .val (.int p3), .val (.int p4), .val (.int p5), .val (.int p6), .val (.int (1 : Int32)), .val (.ref b7), .val (.ref b10), .val (.ref o14)] [(.ref o14)])) rfl rfl (hb hby at_87) _ k) ?_
    show Goes p e below s _ _ _ T14 (mkF m 88 #[.val (.int p1), .val (.int p2), .val (.int p3), .val (.int p4), .val (.int p5), .val (.int p6), .val (.int (1 : Int32)), .val (.ref b7), .val (.ref b10), .val (.ref o14)] [(.int (Int32.ofNat 1))])
    refine Goes.step (fun _ k => XS.iload X14.here hx rfl (hb hby at_88) rfl k) ?_
    show Goes p e below s _ _ _ T14 (mkF m 90 #[.val (.int p1), .val (.int p2), .val (.int p3), .val (.int p4), .val (.int p5), .val (.int p6), .val (.int (1 : Int32)), .val (.ref b7), .val (.ref b10), .val (.ref o14)] [(.int (1 : Int32)), (.int (Int32.ofNat 1))])
    refine Goes.step (fun _ k => XS.icmpYes X14.here hx rfl (pc0 := 90) (pc' := 95) rfl (hb hby at_90) rfl (teq (by decide : (Int32.ofNat 1) = (1 : Int32))).1 (by decide) (by decide) k) ?_
    show Goes p e below s _ _ _ T14 (mkF m 95 #[.val (.int p1), .val (.int p2), .val (.int p3), .val (.int p4), .val (.int p5), .val (.int p6), .val (.int (1 : Int32)), .val (.ref b7), .val (.ref b10), .val (.ref o14)] [])
    refine Goes.step (fun _ k => XS.iload X14.here hx rfl (hb hby at_95) rfl k) ?_
    show Goes p e below s _ _ _ T14 (mkF m 97 #[.val (.int p1), .val (.int p2), .val (.int p3), .val (.int p4), .val (.int p5), .val (.int p6), .val (.int (1 : Int32)), .val (.ref b7), .val (.ref b10), .val (.ref o14)] [(.int (1 : Int32))])
    refine Goes.step (fun _ k => XS.ifNo X14.here hx rfl (hb hby at_97) rfl ((if0 _ _).trans (tlt (by decide : (0 : Int32) < (1 : Int32))).2.2.2) k) ?_
    show Goes p e below s _ _ _ T14 (mkF m 100 #[.val (.int p1), .val (.int p2), .val (.int p3), .val (.int p4), .val (.int p5), .val (.int p6), .val (.int (1 : Int32)), .val (.ref b7), .val (.ref b10), .val (.ref o14)] [])
    refine Goes.step (fun _ k => XS.aload X14.here hx rfl (hb hby at_100) rfl rfl k) ?_
    show Goes p e below s _ _ _ T14 (mkF m 102 #[.val (.int p1), .val (.int p2), .val (.int p3), .val (.int p4), .val (.int p5), .val (.int p6), .val (.int (1 : Int32)), .val (.ref b7), .val (.ref b10), .val (.ref o14)] [(.ref o14)])
    as_aux_lemma =>
      refine Goes.step (fun _ k => XS.iconst X14.here hx rfl (hb hby at_102) k) ?_
      show Goes p e below s _ _ _ T14 (mkF m 103 #[.val (.int p1), .val (.int p2), .val (.int p3), .val (.int p4), .val (.int p5), .val (.int p6), .val (.int (1 : Int32)), .val (.ref b7), .val (.ref b10), .val (.ref o14)] [(.int (0 : Int32)), (.ref o14)])
      refine Goes.step (fun _ k => rdI X14 hx hZ e14 Ao14 (0) rfl (by decide) (g := (mkF m 103 #[.val (.int p1), .val (.int p2), .val (.int p3), .val (.int p4), .val (.int p5), .val (.int p6), .val (.int (1 : Int32)), .val (.ref b7), .val (.ref b10), .val (.ref o14)] [(.int (0 : Int32)), (.ref o14)])) rfl rfl (hb hby at_103) _ k) ?_
      show Goes p e below s _ _ _ T14 (mkF m 104 #[.val (.int p1), .val (.int p2), .val (.int p3), .val (.int p4), .val (.int p5), .val (.int p6), .val (.int (1 : Int32)), .val (.ref b7), .val (.ref b10), .val (.ref o14)] [(.int ((own_F (own_codes p2 p3 p4) (own_bind p5 p6 p1)) (0)))])
      refine Goes.step (fun _ k => XS.iloadN X14.here hx rfl (hb hby at_104) rfl k) ?_
      show Goes p e below s _ _ _ T14 (mkF m 105 #[.val (.int p1), .val (.int p2), .val (.int p3), .val (.int p4), .val (.int p5), .val (.int p6), .val (.int (1 : Int32)), .val (.ref b7), .val (.ref b10), .val (.ref o14)] [(.int p2), (.int ((own_F (own_codes p2 p3 p4) (own_bind p5 p6 p1)) (0)))])
      refine Goes.step (fun _ k => XS.iload X14.here hx rfl (hb hby at_105) rfl k) ?_
      show Goes p e below s _ _ _ T14 (mkF m 107 #[.val (.int p1), .val (.int p2), .val (.int p3), .val (.int p4), .val (.int p5), .val (.int p6), .val (.int (1 : Int32)), .val (.ref b7), .val (.ref b10), .val (.ref o14)] [(.int p5), (.int p2), (.int ((own_F (own_codes p2 p3 p4) (own_bind p5 p6 p1)) (0)))])
      refine Goes.step (fun _ k => XS.iload X14.here hx rfl (hb hby at_107) rfl k) ?_
      show Goes p e below s _ _ _ T14 (mkF m 109 #[.val (.int p1), .val (.int p2), .val (.int p3), .val (.int p4), .val (.int p5), .val (.int p6), .val (.int (1 : Int32)), .val (.ref b7), .val (.ref b10), .val (.ref o14)] [(.int p6), (.int p5), (.int p2), (.int ((own_F (own_codes p2 p3 p4) (own_bind p5 p6 p1)) (0)))])
      refine Goes.step (fun _ k => XS.iloadN X14.here hx rfl (hb hby at_109) rfl k) ?_
      show Goes p e below s _ _ _ T14 (mkF m 110 #[.val (.int p1), .val (.int p2), .val (.int p3), .val (.int p4), .val (.int p5), .val (.int p6), .val (.int (1 : Int32)), .val (.ref b7), .val (.ref b10), .val (.ref o14)] [(.int p1), (.int p6), (.int p5), (.int p2), (.int ((own_F (own_codes p2 p3 p4) (own_bind p5 p6 p1)) (0)))])
      obtain ⟨T15, X15, e15, st15⟩ := callPure X14 hx hZ (y := (⟨"com/example/decompose/decompose/engine/BinderSubstitutePinLaw", "expect", "(IIII)I"⟩ : MethodName)) hown (hw _ (List.mem_of_getElem? (i := 9) rfl)) (hw _ (List.mem_of_getElem? (i := 10) rfl)) (hw _ (List.mem_of_getElem? (i := 7) rfl)) (hw _ (List.mem_of_getElem? (i := 11) rfl)) (by decide) (W := 1) (argsL := [(.int p2), (.int p5), (.int p6), (.int p1)]) (rest := [(.int ((own_F (own_codes p2 p3 p4) (own_bind p5 p6 p1)) (0)))]) (r := (.int (f3 p2 p5 p6 p1))) (fun _ _ _ q => q) (rm3 l Z a0 hw [] p2 p5 p6 p1 h14 ) (by decide) (by decide) (by decide) (by decide) e14 (g := (mkF m 110 #[.val (.int p1), .val (.int p2), .val (.int p3), .val (.int p4), .val (.int p5), .val (.int p6), .val (.int (1 : Int32)), .val (.ref b7), .val (.ref b10), .val (.ref o14)] [(.int p1), (.int p6), (.int p5), (.int p2), (.int ((own_F (own_codes p2 p3 p4) (own_bind p5 p6 p1)) (0)))])) rfl (by rw [hml]; rfl) (lenOf pd_0_2 rfl) rfl (by show 2 * 0 + _ ≤ _; exact Nat.le_of_eq rfl) (hb hby at_110)
      refine Goes.step st15 ?_
      show Goes p e below s _ _ _ T15 (mkF m 113 #[.val (.int p1), .val (.int p2), .val (.int p3), .val (.int p4), .val (.int p5), .val (.int p6), .val (.int (1 : Int32)), .val (.ref b7), .val (.ref b10), .val (.ref o14)] [(.int (f3 p2 p5 p6 p1)), (.int ((own_F (own_codes p2 p3 p4) (own_bind p5 p6 p1)) (0)))])
      refine Goes.step (fun _ k => XS.icmpYes X15.here hx rfl (pc0 := 113) (pc' := 118) rfl (hb hby at_113) rfl (teq (own_e0 p1 p2 p3 p4 p5 p6)).1 (by decide) (by decide) k) ?_
      show Goes p e below s _ _ _ T15 (mkF m 118 #[.val (.int p1), .val (.int p2), .val (.int p3), .val (.int p4), .val (.int p5), .val (.int p6), .val (.int (1 : Int32)), .val (.ref b7), .val (.ref b10), .val (.ref o14)] [])
      refine Goes.step (fun _ k => XS.iload X15.here hx rfl (hb hby at_118) rfl k) ?_
      show Goes p e below s _ _ _ T15 (mkF m 120 #[.val (.int p1), .val (.int p2), .val (.int p3), .val (.int p4), .val (.int p5), .val (.int p6), .val (.int (1 : Int32)), .val (.ref b7), .val (.ref b10), .val (.ref o14)] [(.int (1 : Int32))])
      refine Goes.step (fun _ k => XS.iconst X15.here hx rfl (hb hby at_120) k) ?_
      show Goes p e below s _ _ _ T15 (mkF m 121 #[.val (.int p1), .val (.int p2), .val (.int p3), .val (.int p4), .val (.int p5), .val (.int p6), .val (.int (1 : Int32)), .val (.ref b7), .val (.ref b10), .val (.ref o14)] [(.int (1 : Int32)), (.int (1 : Int32))])
      refine Goes.step (fun _ k => XS.icmpYes X15.here hx rfl (pc0 := 121) (pc' := 142) rfl (hb hby at_121) rfl (flt (by decide : ¬ ((1 : Int32) < (1 : Int32)))).2.2.2 (by decide) (by decide) k) ?_
      show Goes p e below s _ _ _ T15 (mkF m 142 #[.val (.int p1), .val (.int p2), .val (.int p3), .val (.int p4), .val (.int p5), .val (.int p6), .val (.int (1 : Int32)), .val (.ref b7), .val (.ref b10), .val (.ref o14)] [])
      refine Goes.step (fun _ k => XS.iload X15.here hx rfl (hb hby at_142) rfl k) ?_
      show Goes p e below s _ _ _ T15 (mkF m 144 #[.val (.int p1), .val (.int p2), .val (.int p3), .val (.int p4), .val (.int p5), .val (.int p6), .val (.int (1 : Int32)), .val (.ref b7), .val (.ref b10), .val (.ref o14)] [(.int (1 : Int32))])
      refine Goes.step (fun _ k => XS.iconst X15.here hx rfl (hb hby at_144) k) ?_
      show Goes p e below s _ _ _ T15 (mkF m 145 #[.val (.int p1), .val (.int p2), .val (.int p3), .val (.int p4), .val (.int p5), .val (.int p6), .val (.int (1 : Int32)), .val (.ref b7), .val (.ref b10), .val (.ref o14)] [(.int (2 : Int32)), (.int (1 : Int32))])
      refine Goes.step (fun _ k => XS.icmpYes X15.here hx rfl (pc0 := 145) (pc' := 166) rfl (hb hby at_145) rfl (flt (by decide : ¬ ((2 : Int32) < (1 : Int32)))).2.2.2 (by decide) (by decide) k) ?_
      show Goes p e below s _ _ _ T15 (mkF m 166 #[.val (.int p1), .val (.int p2), .val (.int p3), .val (.int p4), .val (.int p5), .val (.int p6), .val (.int (1 : Int32)), .val (.ref b7), .val (.ref b10), .val (.ref o14)] [])
      refine Goes.step (fun _ k => XS.aload X15.here hx rfl (hb hby at_166) rfl rfl k) ?_
      show Goes p e below s _ _ _ T15 (mkF m 168 #[.val (.int p1), .val (.int p2), .val (.int p3), .val (.int p4), .val (.int p5), .val (.int p6), .val (.int (1 : Int32)), .val (.ref b7), .val (.ref b10), .val (.ref o14)] [(.ref b10)])
      refine Goes.step (fun _ k => XS.iconst X15.here hx rfl (hb hby at_168) k) ?_
      show Goes p e below s _ _ _ T15 (mkF m 169 #[.val (.int p1), .val (.int p2), .val (.int p3), .val (.int p4), .val (.int p5), .val (.int p6), .val (.int (1 : Int32)), .val (.ref b7), .val (.ref b10), .val (.ref o14)] [(.int (0 : Int32)), (.ref b10)])
      refine Goes.step (fun _ k => rdI X15 hx hZ e15 AB_14 (0) rfl (by decide) (g := (mkF m 169 #[.val (.int p1), .val (.int p2), .val (.int p3), .val (.int p4), .val (.int p5), .val (.int p6), .val (.int (1 : Int32)), .val (.ref b7), .val (.ref b10), .val (.ref o14)] [(.int (0 : Int32)), (.ref b10)])) rfl rfl (hb hby at_169) _ k) ?_
      show Goes p e below s _ _ _ T15 (mkF m 170 #[.val (.int p1), .val (.int p2), .val (.int p3), .val (.int p4), .val (.int p5), .val (.int p6), .val (.int (1 : Int32)), .val (.ref b7), .val (.ref b10), .val (.ref o14)] [(.int ((own_bind p5 p6 p1) (0)))])
      refine Goes.step (fun _ k => XS.iload X15.here hx rfl (hb hby at_170) rfl k) ?_
      show Goes p e below s _ _ _ T15 (mkF m 172 #[.val (.int p1), .val (.int p2), .val (.int p3), .val (.int p4), .val (.int p5), .val (.int p6), .val (.int (1 : Int32)), .val (.ref b7), .val (.ref b10), .val (.ref o14)] [(.int p5), (.int ((own_bind p5 p6 p1) (0)))])
      refine Goes.step (fun _ k => XS.icmpNo X15.here hx rfl (hb hby at_172) rfl (teq (rfl : own_bind p5 p6 p1 0 = p5)).2 k) ?_
      show Goes p e below s _ _ _ T15 (mkF m 175 #[.val (.int p1), .val (.int p2), .val (.int p3), .val (.int p4), .val (.int p5), .val (.int p6), .val (.int (1 : Int32)), .val (.ref b7), .val (.ref b10), .val (.ref o14)] [])
      refine Goes.step (fun _ k => XS.aload X15.here hx rfl (hb hby at_175) rfl rfl k) ?_
      show Goes p e below s _ _ _ T15 (mkF m 177 #[.val (.int p1), .val (.int p2), .val (.int p3), .val (.int p4), .val (.int p5), .val (.int p6), .val (.int (1 : Int32)), .val (.ref b7), .val (.ref b10), .val (.ref o14)] [(.ref b10)])
      refine Goes.step (fun _ k => XS.iconst X15.here hx rfl (hb hby at_177) k) ?_
      show Goes p e below s _ _ _ T15 (mkF m 178 #[.val (.int p1), .val (.int p2), .val (.int p3), .val (.int p4), .val (.int p5), .val (.int p6), .val (.int (1 : Int32)), .val (.ref b7), .val (.ref b10), .val (.ref o14)] [(.int (1 : Int32)), (.ref b10)])
      refine Goes.step (fun _ k => rdI X15 hx hZ e15 AB_14 (1) rfl (by decide) (g := (mkF m 178 #[.val (.int p1), .val (.int p2), .val (.int p3), .val (.int p4), .val (.int p5), .val (.int p6), .val (.int (1 : Int32)), .val (.ref b7), .val (.ref b10), .val (.ref o14)] [(.int (1 : Int32)), (.ref b10)])) rfl rfl (hb hby at_178) _ k) ?_
      show Goes p e below s _ _ _ T15 (mkF m 179 #[.val (.int p1), .val (.int p2), .val (.int p3), .val (.int p4), .val (.int p5), .val (.int p6), .val (.int (1 : Int32)), .val (.ref b7), .val (.ref b10), .val (.ref o14)] [(.int ((own_bind p5 p6 p1) (1)))])
      refine Goes.step (fun _ k => XS.iload X15.here hx rfl (hb hby at_179) rfl k) ?_
      show Goes p e below s _ _ _ T15 (mkF m 181 #[.val (.int p1), .val (.int p2), .val (.int p3), .val (.int p4), .val (.int p5), .val (.int p6), .val (.int (1 : Int32)), .val (.ref b7), .val (.ref b10), .val (.ref o14)] [(.int p6), (.int ((own_bind p5 p6 p1) (1)))])
      refine Goes.step (fun _ k => XS.icmpNo X15.here hx rfl (hb hby at_181) rfl (teq (rfl : own_bind p5 p6 p1 1 = p6)).2 k) ?_
      show Goes p e below s _ _ _ T15 (mkF m 184 #[.val (.int p1), .val (.int p2), .val (.int p3), .val (.int p4), .val (.int p5), .val (.int p6), .val (.int (1 : Int32)), .val (.ref b7), .val (.ref b10), .val (.ref o14)] [])
      refine Goes.step (fun _ k => XS.aload X15.here hx rfl (hb hby at_184) rfl rfl k) ?_
      show Goes p e below s _ _ _ T15 (mkF m 186 #[.val (.int p1), .val (.int p2), .val (.int p3), .val (.int p4), .val (.int p5), .val (.int p6), .val (.int (1 : Int32)), .val (.ref b7), .val (.ref b10), .val (.ref o14)] [(.ref b10)])
      refine Goes.step (fun _ k => XS.iconst X15.here hx rfl (hb hby at_186) k) ?_
      show Goes p e below s _ _ _ T15 (mkF m 187 #[.val (.int p1), .val (.int p2), .val (.int p3), .val (.int p4), .val (.int p5), .val (.int p6), .val (.int (1 : Int32)), .val (.ref b7), .val (.ref b10), .val (.ref o14)] [(.int (2 : Int32)), (.ref b10)])
      refine Goes.step (fun _ k => rdI X15 hx hZ e15 AB_14 (2) rfl (by decide) (g := (mkF m 187 #[.val (.int p1), .val (.int p2), .val (.int p3), .val (.int p4), .val (.int p5), .val (.int p6), .val (.int (1 : Int32)), .val (.ref b7), .val (.ref b10), .val (.ref o14)] [(.int (2 : Int32)), (.ref b10)])) rfl rfl (hb hby at_187) _ k) ?_
      show Goes p e below s _ _ _ T15 (mkF m 188 #[.val (.int p1), .val (.int p2), .val (.int p3), .val (.int p4), .val (.int p5), .val (.int p6), .val (.int (1 : Int32)), .val (.ref b7), .val (.ref b10), .val (.ref o14)] [(.int ((own_bind p5 p6 p1) (2)))])
      refine Goes.step (fun _ k => XS.iloadN X15.here hx rfl (hb hby at_188) rfl k) ?_
      show Goes p e below s _ _ _ T15 (mkF m 189 #[.val (.int p1), .val (.int p2), .val (.int p3), .val (.int p4), .val (.int p5), .val (.int p6), .val (.int (1 : Int32)), .val (.ref b7), .val (.ref b10), .val (.ref o14)] [(.int p1), (.int ((own_bind p5 p6 p1) (2)))])
      refine Goes.step (fun _ k => XS.icmpNo X15.here hx rfl (hb hby at_189) rfl (teq (rfl : own_bind p5 p6 p1 2 = p1)).2 k) ?_
      show Goes p e below s _ _ _ T15 (mkF m 192 #[.val (.int p1), .val (.int p2), .val (.int p3), .val (.int p4), .val (.int p5), .val (.int p6), .val (.int (1 : Int32)), .val (.ref b7), .val (.ref b10), .val (.ref o14)] [])
      refine Goes.step (fun _ k => XS.iconst X15.here hx rfl (hb hby at_192) k) ?_
      show Goes p e below s _ _ _ T15 (mkF m 193 #[.val (.int p1), .val (.int p2), .val (.int p3), .val (.int p4), .val (.int p5), .val (.int p6), .val (.int (1 : Int32)), .val (.ref b7), .val (.ref b10), .val (.ref o14)] [(.int (1 : Int32))])
      refine Goes.step (fun _ k => XS.goto X15.here hx rfl (pc0 := 193) (pc' := 197) rfl (hb hby at_193) (by decide) (by decide) k) ?_
      show Goes p e below s _ _ _ T15 (mkF m 197 #[.val (.int p1), .val (.int p2), .val (.int p3), .val (.int p4), .val (.int p5), .val (.int p6), .val (.int (1 : Int32)), .val (.ref b7), .val (.ref b10), .val (.ref o14)] [(.int (1 : Int32))])
      exact Goes.outN X15 hx hlk (t := .boolean) Bd.returns (by simp) (hb hby at_197) ⟨rfl, N_14⟩ (by decide) (by decide)
  · rw [hq]
    refine Goes.step (fun _ k => XS.istore X0.here hx rfl (hb hby at_3) rfl (l' := #[.val (.int p1), .val (.int p2), .val (.int p3), .val (.int p4), .val (.int p5), .val (.int p6), .val (.int (2 : Int32)), .unset, .unset, .unset]) rfl k) ?_
    show Goes p e below s _ _ _ s₁ (mkF m 5 #[.val (.int p1), .val (.int p2), .val (.int p3), .val (.int p4), .val (.int p5), .val (.int p6), .val (.int (2 : Int32)), .unset, .unset, .unset] [])
    refine Goes.step (fun _ k => XS.iload X0.here hx rfl (hb hby at_5) rfl k) ?_
    show Goes p e below s _ _ _ s₁ (mkF m 7 #[.val (.int p1), .val (.int p2), .val (.int p3), .val (.int p4), .val (.int p5), .val (.int p6), .val (.int (2 : Int32)), .unset, .unset, .unset] [(.int (2 : Int32))])
    obtain ⟨T16, h16, X16, e16, E16, A16, st16⟩ := newI X0 hx hZ (hw _ (List.mem_of_getElem? (i := 0) rfl)) e0 (g := (mkF m 7 #[.val (.int p1), .val (.int p2), .val (.int p3), .val (.int p4), .val (.int p5), .val (.int p6), .val (.int (2 : Int32)), .unset, .unset, .unset] [(.int (2 : Int32))])) rfl (hb hby at_7) rfl (N := 2) rfl (cap := 2) (by decide) (by decide) (by decide) (by decide) rfl (by decide)
    obtain ⟨b16, g_16⟩ : ∃ z, z = h0.size := ⟨_, rfl⟩
    rw [← g_16] at A16 st16
    refine Goes.step st16 ?_
    have ge_b16 : n0 ≤ b16 := by rw [g_16]; exact Z0
    have sz_b16 : h0.size ≤ b16 := by rw [g_16]; exact K0.1
    have z_16 : n0 ≤ h16.size := Nat.le_trans Z0 E16.1
    have K_16 : Keep h0 h16 [] := K0.ext E16
    have A_b16_16 : Ari Z h16 b16 .int (2) (fun _ => 0) := A16
    show Goes p e below s _ _ _ T16 (mkF m 9 #[.val (.int p1), .val (.int p2), .val (.int p3), .val (.int p4), .val (.int p5), .val (.int p6), .val (.int (2 : Int32)), .unset, .unset, .unset] [(.ref b16)])
    refine Goes.step (fun _ k => XS.astore X16.here hx rfl (hb hby at_9) rfl rfl (l' := #[.val (.int p1), .val (.int p2), .val (.int p3), .val (.int p4), .val (.int p5), .val (.int p6), .val (.int (2 : Int32)), .val (.ref b16), .unset, .unset]) rfl k) ?_
    show Goes p e below s _ _ _ T16 (mkF m 11 #[.val (.int p1), .val (.int p2), .val (.int p3), .val (.int p4), .val (.int p5), .val (.int p6), .val (.int (2 : Int32)), .val (.ref b16), .unset, .unset] [])
    refine Goes.step (fun _ k => XS.iload X16.here hx rfl (hb hby at_11) rfl k) ?_
    show Goes p e below s _ _ _ T16 (mkF m 13 #[.val (.int p1), .val (.int p2), .val (.int p3), .val (.int p4), .val (.int p5), .val (.int p6), .val (.int (2 : Int32)), .val (.ref b16), .unset, .unset] [(.int (2 : Int32))])
    refine Goes.step (fun _ k => XS.ifNo X16.here hx rfl (hb hby at_13) rfl ((if0 _ _).trans (tlt (by decide : (0 : Int32) < (2 : Int32))).2.2.2) k) ?_
    show Goes p e below s _ _ _ T16 (mkF m 16 #[.val (.int p1), .val (.int p2), .val (.int p3), .val (.int p4), .val (.int p5), .val (.int p6), .val (.int (2 : Int32)), .val (.ref b16), .unset, .unset] [])
    refine Goes.step (fun _ k => XS.aload X16.here hx rfl (hb hby at_16) rfl rfl k) ?_
    show Goes p e below s _ _ _ T16 (mkF m 18 #[.val (.int p1), .val (.int p2), .val (.int p3), .val (.int p4), .val (.int p5), .val (.int p6), .val (.int (2 : Int32)), .val (.ref b16), .unset, .unset] [(.ref b16)])
    refine Goes.step (fun _ k => XS.iconst X16.here hx rfl (hb hby at_18) k) ?_
    show Goes p e below s _ _ _ T16 (mkF m 19 #[.val (.int p1), .val (.int p2), .val (.int p3), .val (.int p4), .val (.int p5), .val (.int p6), .val (.int (2 : Int32)), .val (.ref b16), .unset, .unset] [(.int (0 : Int32)), (.ref b16)])
    refine Goes.step (fun _ k => XS.iloadN X16.here hx rfl (hb hby at_19) rfl k) ?_
    show Goes p e below s _ _ _ T16 (mkF m 20 #[.val (.int p1), .val (.int p2), .val (.int p3), .val (.int p4), .val (.int p5), .val (.int p6), .val (.int (2 : Int32)), .val (.ref b16), .unset, .unset] [(.int p2), (.int (0 : Int32)), (.ref b16)])
    obtain ⟨T17, X17, e17, st17⟩ := callPure X16 hx hZ (y := (⟨"com/example/decompose/decompose/engine/BinderSubstitutePinLaw", "code", "(I)I"⟩ : MethodName)) hown (hw _ (List.mem_of_getElem? (i := 5) rfl)) (hw _ (List.mem_of_getElem? (i := 6) rfl)) (hw _ (List.mem_of_getElem? (i := 7) rfl)) (hw _ (List.mem_of_getElem? (i := 8) rfl)) (by decide) (W := 2) (argsL := [(.int p2)]) (rest := [(.int (0 : Int32)), (.ref b16)]) (r := (.int (f2 p2))) (fun _ _ _ q => q) (rm2 l Z a0 hw [] p2 h16 ) (by decide) (by decide) (by decide) (by decide) e16 (g := (mkF m 20 #[.val (.int p1), .val (.int p2), .val (.int p3), .val (.int p4), .val (.int p5), .val (.int p6), .val (.int (2 : Int32)), .val (.ref b16), .unset, .unset] [(.int p2), (.int (0 : Int32)), (.ref b16)])) rfl (by rw [hml]; rfl) (lenOf pd_0_1 rfl) rfl (by show 2 * 0 + _ ≤ _; exact Nat.le_of_eq rfl) (hb hby at_20)
    refine Goes.step st17 ?_
    show Goes p e below s _ _ _ T17 (mkF m 23 #[.val (.int p1), .val (.int p2), .val (.int p3), .val (.int p4), .val (.int p5), .val (.int p6), .val (.int (2 : Int32)), .val (.ref b16), .unset, .unset] [(.int (f2 p2)), (.int (0 : Int32)), (.ref b16)])
    obtain ⟨T18, h18, X18, e18, W18, A18, st18⟩ := stoI X17 hx hZ e17 A_b16_16 (0) rfl (by decide) (g := (mkF m 23 #[.val (.int p1), .val (.int p2), .val (.int p3), .val (.int p4), .val (.int p5), .val (.int p6), .val (.int (2 : Int32)), .val (.ref b16), .unset, .unset] [(.int (f2 p2)), (.int (0 : Int32)), (.ref b16)])) rfl rfl (hb hby at_23)
    refine Goes.step st18 ?_
    have z_18 : n0 ≤ h18.size := by rw [W18.size]; exact z_16
    have K_18 : Keep h0 h18 [] := K_16.wr W18 (Or.inr sz_b16)
    have N_18 := Fr.snoc X18 N0 ge_b16
    have A_b16_18 : Ari Z h18 b16 .int (2) (updI (fun _ => 0) (0) (f2 p2)) := A18
    show Goes p e below s _ _ _ T18 (mkF m 24 #[.val (.int p1), .val (.int p2), .val (.int p3), .val (.int p4), .val (.int p5), .val (.int p6), .val (.int (2 : Int32)), .val (.ref b16), .unset, .unset] [])
    refine Goes.step (fun _ k => XS.iload X18.here hx rfl (hb hby at_24) rfl k) ?_
    show Goes p e below s _ _ _ T18 (mkF m 26 #[.val (.int p1), .val (.int p2), .val (.int p3), .val (.int p4), .val (.int p5), .val (.int p6), .val (.int (2 : Int32)), .val (.ref b16), .unset, .unset] [(.int (2 : Int32))])
    refine Goes.step (fun _ k => XS.iconst X18.here hx rfl (hb hby at_26) k) ?_
    show Goes p e below s _ _ _ T18 (mkF m 27 #[.val (.int p1), .val (.int p2), .val (.int p3), .val (.int p4), .val (.int p5), .val (.int p6), .val (.int (2 : Int32)), .val (.ref b16), .unset, .unset] [(.int (1 : Int32)), (.int (2 : Int32))])
    refine Goes.step (fun _ k => XS.icmpNo X18.here hx rfl (hb hby at_27) rfl (tlt (by decide : (1 : Int32) < (2 : Int32))).2.2.2 k) ?_
    show Goes p e below s _ _ _ T18 (mkF m 30 #[.val (.int p1), .val (.int p2), .val (.int p3), .val (.int p4), .val (.int p5), .val (.int p6), .val (.int (2 : Int32)), .val (.ref b16), .unset, .unset] [])
    refine Goes.step (fun _ k => XS.aload X18.here hx rfl (hb hby at_30) rfl rfl k) ?_
    show Goes p e below s _ _ _ T18 (mkF m 32 #[.val (.int p1), .val (.int p2), .val (.int p3), .val (.int p4), .val (.int p5), .val (.int p6), .val (.int (2 : Int32)), .val (.ref b16), .unset, .unset] [(.ref b16)])
    refine Goes.step (fun _ k => XS.iconst X18.here hx rfl (hb hby at_32) k) ?_
    show Goes p e below s _ _ _ T18 (mkF m 33 #[.val (.int p1), .val (.int p2), .val (.int p3), .val (.int p4), .val (.int p5), .val (.int p6), .val (.int (2 : Int32)), .val (.ref b16), .unset, .unset] [(.int (1 : Int32)), (.ref b16)])
    refine Goes.step (fun _ k => XS.iloadN X18.here hx rfl (hb hby at_33) rfl k) ?_
    show Goes p e below s _ _ _ T18 (mkF m 34 #[.val (.int p1), .val (.int p2), .val (.int p3), .val (.int p4), .val (.int p5), .val (.int p6), .val (.int (2 : Int32)), .val (.ref b16), .unset, .unset] [(.int p3), (.int (1 : Int32)), (.ref b16)])
    obtain ⟨T19, X19, e19, st19⟩ := callPure X18 hx hZ (y := (⟨"com/example/decompose/decompose/engine/BinderSubstitutePinLaw", "code", "(I)I"⟩ : MethodName)) hown (hw _ (List.mem_of_getElem? (i := 5) rfl)) (hw _ (List.mem_of_getElem? (i := 6) rfl)) (hw _ (List.mem_of_getElem? (i := 7) rfl)) (hw _ (List.mem_of_getElem? (i := 8) rfl)) (by decide) (W := 2) (argsL := [(.int p3)]) (rest := [(.int (1 : Int32)), (.ref b16)]) (r := (.int (f2 p3))) (fun _ _ _ q => q) (rm2 l Z a0 hw [] p3 h18 ) (by decide) (by decide) (by decide) (by decide) e18 (g := (mkF m 34 #[.val (.int p1), .val (.int p2), .val (.int p3), .val (.int p4), .val (.int p5), .val (.int p6), .val (.int (2 : Int32)), .val (.ref b16), .unset, .unset] [(.int p3), (.int (1 : Int32)), (.ref b16)])) rfl (by rw [hml]; rfl) (lenOf pd_0_1 rfl) rfl (by show 2 * 0 + _ ≤ _; exact Nat.le_of_eq rfl) (hb hby at_34)
    refine Goes.step st19 ?_
    show Goes p e below s _ _ _ T19 (mkF m 37 #[.val (.int p1), .val (.int p2), .val (.int p3), .val (.int p4), .val (.int p5), .val (.int p6), .val (.int (2 : Int32)), .val (.ref b16), .unset, .unset] [(.int (f2 p3)), (.int (1 : Int32)), (.ref b16)])
    obtain ⟨T20, h20, X20, e20, W20, A20, st20⟩ := stoI X19 hx hZ e19 A_b16_18 (1) rfl (by decide) (g := (mkF m 37 #[.val (.int p1), .val (.int p2), .val (.int p3), .val (.int p4), .val (.int p5), .val (.int p6), .val (.int (2 : Int32)), .val (.ref b16), .unset, .unset] [(.int (f2 p3)), (.int (1 : Int32)), (.ref b16)])) rfl rfl (hb hby at_37)
    refine Goes.step st20 ?_
    have z_20 : n0 ≤ h20.size := by rw [W20.size]; exact z_18
    have K_20 : Keep h0 h20 [] := K_18.wr W20 (Or.inr sz_b16)
    have N_20 := Fr.snoc X20 N_18 ge_b16
    have A_b16_20 : Ari Z h20 b16 .int (2) (updI (updI (fun _ => 0) (0) (f2 p2)) (1) (f2 p3)) := A20
    show Goes p e below s _ _ _ T20 (mkF m 38 #[.val (.int p1), .val (.int p2), .val (.int p3), .val (.int p4), .val (.int p5), .val (.int p6), .val (.int (2 : Int32)), .val (.ref b16), .unset, .unset] [])
    refine Goes.step (fun _ k => XS.iload X20.here hx rfl (hb hby at_38) rfl k) ?_
    show Goes p e below s _ _ _ T20 (mkF m 40 #[.val (.int p1), .val (.int p2), .val (.int p3), .val (.int p4), .val (.int p5), .val (.int p6), .val (.int (2 : Int32)), .val (.ref b16), .unset, .unset] [(.int (2 : Int32))])
    refine Goes.step (fun _ k => XS.iconst X20.here hx rfl (hb hby at_40) k) ?_
    show Goes p e below s _ _ _ T20 (mkF m 41 #[.val (.int p1), .val (.int p2), .val (.int p3), .val (.int p4), .val (.int p5), .val (.int p6), .val (.int (2 : Int32)), .val (.ref b16), .unset, .unset] [(.int (2 : Int32)), (.int (2 : Int32))])
    refine Goes.step (fun _ k => XS.icmpYes X20.here hx rfl (pc0 := 41) (pc' := 52) rfl (hb hby at_41) rfl (flt (by decide : ¬ ((2 : Int32) < (2 : Int32)))).2.2.2 (by decide) (by decide) k) ?_
    show Goes p e below s _ _ _ T20 (mkF m 52 #[.val (.int p1), .val (.int p2), .val (.int p3), .val (.int p4), .val (.int p5), .val (.int p6), .val (.int (2 : Int32)), .val (.ref b16), .unset, .unset] [])
    refine Goes.step (fun _ k => XS.iconst X20.here hx rfl (hb hby at_52) k) ?_
    show Goes p e below s _ _ _ T20 (mkF m 53 #[.val (.int p1), .val (.int p2), .val (.int p3), .val (.int p4), .val (.int p5), .val (.int p6), .val (.int (2 : Int32)), .val (.ref b16), .unset, .unset] [(.int (3 : Int32))])
    obtain ⟨T21, h21, X21, e21, E21, A21, st21⟩ := newI X20 hx hZ (hw _ (List.mem_of_getElem? (i := 0) rfl)) e20 (g := (mkF m 53 #[.val (.int p1), .val (.int p2), .val (.int p3), .val (.int p4), .val (.int p5), .val (.int p6), .val (.int (2 : Int32)), .val (.ref b16), .unset, .unset] [(.int (3 : Int32))])) rfl (hb hby at_53) rfl (N := 3) rfl (cap := 3) (by decide) (by decide) (by decide) (by decide) rfl (by decide)
    obtain ⟨b21, g_21⟩ : ∃ z, z = h20.size := ⟨_, rfl⟩
    rw [← g_21] at A21 st21
    refine Goes.step st21 ?_
    have ne_b16_b21 : b16 ≠ b21 := Nat.ne_of_lt (by rw [g_21]; exact A_b16_20.lt)
    have ge_b21 : n0 ≤ b21 := by rw [g_21]; exact z_20
    have sz_b21 : h0.size ≤ b21 := by rw [g_21]; exact K_20.1
    have A_b16_21 := A_b16_20.ext E21
    have z_21 : n0 ≤ h21.size := Nat.le_trans z_20 E21.1
    have K_21 : Keep h0 h21 [] := K_20.ext E21
    have A_b21_21 : Ari Z h21 b21 .int (3) (fun _ => 0) := A21
    show Goes p e below s _ _ _ T21 (mkF m 55 #[.val (.int p1), .val (.int p2), .val (.int p3), .val (.int p4), .val (.int p5), .val (.int p6), .val (.int (2 : Int32)), .val (.ref b16), .unset, .unset] [(.ref b21)])
    refine Goes.step (fun _ k => XS.dup X21.here hx rfl (hb hby at_55) rfl rfl k) ?_
    show Goes p e below s _ _ _ T21 (mkF m 56 #[.val (.int p1), .val (.int p2), .val (.int p3), .val (.int p4), .val (.int p5), .val (.int p6), .val (.int (2 : Int32)), .val (.ref b16), .unset, .unset] [(.ref b21), (.ref b21)])
    refine Goes.step (fun _ k => XS.iconst X21.here hx rfl (hb hby at_56) k) ?_
    show Goes p e below s _ _ _ T21 (mkF m 57 #[.val (.int p1), .val (.int p2), .val (.int p3), .val (.int p4), .val (.int p5), .val (.int p6), .val (.int (2 : Int32)), .val (.ref b16), .unset, .unset] [(.int (0 : Int32)), (.ref b21), (.ref b21)])
    refine Goes.step (fun _ k => XS.iload X21.here hx rfl (hb hby at_57) rfl k) ?_
    show Goes p e below s _ _ _ T21 (mkF m 59 #[.val (.int p1), .val (.int p2), .val (.int p3), .val (.int p4), .val (.int p5), .val (.int p6), .val (.int (2 : Int32)), .val (.ref b16), .unset, .unset] [(.int p5), (.int (0 : Int32)), (.ref b21), (.ref b21)])
    obtain ⟨T22, h22, X22, e22, W22, A22, st22⟩ := stoI X21 hx hZ e21 A_b21_21 (0) rfl (by decide) (g := (mkF m 59 #[.val (.int p1), .val (.int p2), .val (.int p3), .val (.int p4), .val (.int p5), .val (.int p6), .val (.int (2 : Int32)), .val (.ref b16), .unset, .unset] [(.int p5), (.int (0 : Int32)), (.ref b21), (.ref b21)])) rfl rfl (hb hby at_59)
    refine Goes.step st22 ?_
    have A_b16_22 := A_b16_21.other W22 ne_b16_b21
    have z_22 : n0 ≤ h22.size := by rw [W22.size]; exact z_21
    have K_22 : Keep h0 h22 [] := K_21.wr W22 (Or.inr sz_b21)
    have N_22 := Fr.snoc X22 N_20 ge_b21
    have A_b21_22 : Ari Z h22 b21 .int (3) (updI (fun _ => 0) (0) p5) := A22
    show Goes p e below s _ _ _ T22 (mkF m 60 #[.val (.int p1), .val (.int p2), .val (.int p3), .val (.int p4), .val (.int p5), .val (.int p6), .val (.int (2 : Int32)), .val (.ref b16), .unset, .unset] [(.ref b21)])
    refine Goes.step (fun _ k => XS.dup X22.here hx rfl (hb hby at_60) rfl rfl k) ?_
    show Goes p e below s _ _ _ T22 (mkF m 61 #[.val (.int p1), .val (.int p2), .val (.int p3), .val (.int p4), .val (.int p5), .val (.int p6), .val (.int (2 : Int32)), .val (.ref b16), .unset, .unset] [(.ref b21), (.ref b21)])
    refine Goes.step (fun _ k => XS.iconst X22.here hx rfl (hb hby at_61) k) ?_
    show Goes p e below s _ _ _ T22 (mkF m 62 #[.val (.int p1), .val (.int p2), .val (.int p3), .val (.int p4), .val (.int p5), .val (.int p6), .val (.int (2 : Int32)), .val (.ref b16), .unset, .unset] [(.int (1 : Int32)), (.ref b21), (.ref b21)])
    refine Goes.step (fun _ k => XS.iload X22.here hx rfl (hb hby at_62) rfl k) ?_
    show Goes p e below s _ _ _ T22 (mkF m 64 #[.val (.int p1), .val (.int p2), .val (.int p3), .val (.int p4), .val (.int p5), .val (.int p6), .val (.int (2 : Int32)), .val (.ref b16), .unset, .unset] [(.int p6), (.int (1 : Int32)), (.ref b21), (.ref b21)])
    obtain ⟨T23, h23, X23, e23, W23, A23, st23⟩ := stoI X22 hx hZ e22 A_b21_22 (1) rfl (by decide) (g := (mkF m 64 #[.val (.int p1), .val (.int p2), .val (.int p3), .val (.int p4), .val (.int p5), .val (.int p6), .val (.int (2 : Int32)), .val (.ref b16), .unset, .unset] [(.int p6), (.int (1 : Int32)), (.ref b21), (.ref b21)])) rfl rfl (hb hby at_64)
    refine Goes.step st23 ?_
    have A_b16_23 := A_b16_22.other W23 ne_b16_b21
    have z_23 : n0 ≤ h23.size := by rw [W23.size]; exact z_22
    have K_23 : Keep h0 h23 [] := K_22.wr W23 (Or.inr sz_b21)
    have N_23 := Fr.snoc X23 N_22 ge_b21
    have A_b21_23 : Ari Z h23 b21 .int (3) (updI (updI (fun _ => 0) (0) p5) (1) p6) := A23
    show Goes p e below s _ _ _ T23 (mkF m 65 #[.val (.int p1), .val (.int p2), .val (.int p3), .val (.int p4), .val (.int p5), .val (.int p6), .val (.int (2 : Int32)), .val (.ref b16), .unset, .unset] [(.ref b21)])
    refine Goes.step (fun _ k => XS.dup X23.here hx rfl (hb hby at_65) rfl rfl k) ?_
    show Goes p e below s _ _ _ T23 (mkF m 66 #[.val (.int p1), .val (.int p2), .val (.int p3), .val (.int p4), .val (.int p5), .val (.int p6), .val (.int (2 : Int32)), .val (.ref b16), .unset, .unset] [(.ref b21), (.ref b21)])
    refine Goes.step (fun _ k => XS.iconst X23.here hx rfl (hb hby at_66) k) ?_
    show Goes p e below s _ _ _ T23 (mkF m 67 #[.val (.int p1), .val (.int p2), .val (.int p3), .val (.int p4), .val (.int p5), .val (.int p6), .val (.int (2 : Int32)), .val (.ref b16), .unset, .unset] [(.int (2 : Int32)), (.ref b21), (.ref b21)])
    refine Goes.step (fun _ k => XS.iloadN X23.here hx rfl (hb hby at_67) rfl k) ?_
    show Goes p e below s _ _ _ T23 (mkF m 68 #[.val (.int p1), .val (.int p2), .val (.int p3), .val (.int p4), .val (.int p5), .val (.int p6), .val (.int (2 : Int32)), .val (.ref b16), .unset, .unset] [(.int p1), (.int (2 : Int32)), (.ref b21), (.ref b21)])
    obtain ⟨T24, h24, X24, e24, W24, A24, st24⟩ := stoI X23 hx hZ e23 A_b21_23 (2) rfl (by decide) (g := (mkF m 68 #[.val (.int p1), .val (.int p2), .val (.int p3), .val (.int p4), .val (.int p5), .val (.int p6), .val (.int (2 : Int32)), .val (.ref b16), .unset, .unset] [(.int p1), (.int (2 : Int32)), (.ref b21), (.ref b21)])) rfl rfl (hb hby at_68)
    refine Goes.step st24 ?_
    have A_b16_24 := A_b16_23.other W24 ne_b16_b21
    have z_24 : n0 ≤ h24.size := by rw [W24.size]; exact z_23
    have K_24 : Keep h0 h24 [] := K_23.wr W24 (Or.inr sz_b21)
    have N_24 := Fr.snoc X24 N_23 ge_b21
    have A_b21_24 : Ari Z h24 b21 .int (3) (updI (updI (updI (fun _ => 0) (0) p5) (1) p6) (2) p1) := A24
    show Goes p e below s _ _ _ T24 (mkF m 69 #[.val (.int p1), .val (.int p2), .val (.int p3), .val (.int p4), .val (.int p5), .val (.int p6), .val (.int (2 : Int32)), .val (.ref b16), .unset, .unset] [(.ref b21)])
    refine Goes.step (fun _ k => XS.astore X24.here hx rfl (hb hby at_69) rfl rfl (l' := #[.val (.int p1), .val (.int p2), .val (.int p3), .val (.int p4), .val (.int p5), .val (.int p6), .val (.int (2 : Int32)), .val (.ref b16), .val (.ref b21), .unset]) rfl k) ?_
    show Goes p e below s _ _ _ T24 (mkF m 71 #[.val (.int p1), .val (.int p2), .val (.int p3), .val (.int p4), .val (.int p5), .val (.int p6), .val (.int (2 : Int32)), .val (.ref b16), .val (.ref b21), .unset] [])
    refine Goes.step (fun _ k => XS.aload X24.here hx rfl (hb hby at_71) rfl rfl k) ?_
    show Goes p e below s _ _ _ T24 (mkF m 73 #[.val (.int p1), .val (.int p2), .val (.int p3), .val (.int p4), .val (.int p5), .val (.int p6), .val (.int (2 : Int32)), .val (.ref b16), .val (.ref b21), .unset] [(.ref b16)])
    refine Goes.step (fun _ k => XS.aload X24.here hx rfl (hb hby at_73) rfl rfl k) ?_
    show Goes p e below s _ _ _ T24 (mkF m 75 #[.val (.int p1), .val (.int p2), .val (.int p3), .val (.int p4), .val (.int p5), .val (.int p6), .val (.int (2 : Int32)), .val (.ref b16), .val (.ref b21), .unset] [(.ref b21), (.ref b16)])
    have AC := A_b16_24.cast (g := (own_codes p2 p3 p4)) (own_l2 (f2 p2) (f2 p3) (f2 p4))
    have AB := A_b21_24.cast (g := (own_bind p5 p6 p1)) (own_l3 p5 p6 p1)
    obtain ⟨v25, T25, h25, L25, X25, e25, Q25, st25⟩ := callX X24 hx hZ (y := (⟨"com/example/decompose/decompose/engine/Binder", "substitute", "([I[I)[I"⟩ : MethodName)) hown (hw _ (List.mem_of_getElem? (i := 1) rfl)) (hw _ (List.mem_of_getElem? (i := 2) rfl)) (hw _ (List.mem_of_getElem? (i := 3) rfl)) (hw _ (List.mem_of_getElem? (i := 4) rfl)) (by decide) (W := 0) (argsL := [(.ref b16), (.ref b21)]) (rest := []) (rm1 l Z a0 hw [] b16 b21 2 (own_codes p2 p3 p4) (own_bind p5 p6 p1) h24 n0 z_24 (by decide) (own_codes_lt p2 p3 p4 _) AC AB) (by decide) (by decide) (by decide) (by decide) e24 (g := (mkF m 75 #[.val (.int p1), .val (.int p2), .val (.int p3), .val (.int p4), .val (.int p5), .val (.int p6), .val (.int (2 : Int32)), .val (.ref b16), .val (.ref b21), .unset] [(.ref b21), (.ref b16)])) rfl (by rw [hml]; rfl) (lenOf pd_0_0 rfl) rfl (by show 2 * 0 + _ ≤ _; exact Nat.le_of_eq rfl) (hb hby at_75)
    obtain ⟨o25, rfl, NQ25, KQ25, so25, Ao25⟩ := Q25
    refine Goes.step st25 ?_
    have A_b16_25 := A_b16_24.keep KQ25 nin0
    have AB_25 := AB.keep KQ25 nin0
    have z_25 : n0 ≤ h25.size := Nat.le_trans z_24 KQ25.1
    have K_25 : Keep h0 h25 [] := Keep.trans K_24 KQ25 all0
    have N_25 := Fr.app N_24 NQ25
    show Goes p e below s _ _ _ T25 (mkF m 78 #[.val (.int p1), .val (.int p2), .val (.int p3), .val (.int p4), .val (.int p5), .val (.int p6), .val (.int (2 : Int32)), .val (.ref b16), .val (.ref b21), .unset] [(.ref o25)])
    refine Goes.step (fun _ k => XS.astore X25.here hx rfl (hb hby at_78) rfl rfl (l' := #[.val (.int p1), .val (.int p2), .val (.int p3), .val (.int p4), .val (.int p5), .val (.int p6), .val (.int (2 : Int32)), .val (.ref b16), .val (.ref b21), .val (.ref o25)]) rfl k) ?_
    show Goes p e below s _ _ _ T25 (mkF m 80 #[.val (.int p1), .val (.int p2), .val (.int p3), .val (.int p4), .val (.int p5), .val (.int p6), .val (.int (2 : Int32)), .val (.ref b16), .val (.ref b21), .val (.ref o25)] [])
    refine Goes.step (fun _ k => XS.aload X25.here hx rfl (hb hby at_80) rfl rfl k) ?_
    show Goes p e below s _ _ _ T25 (mkF m 82 #[.val (.int p1), .val (.int p2), .val (.int p3), .val (.int p4), .val (.int p5), .val (.int p6), .val (.int (2 : Int32)), .val (.ref b16), .val (.ref b21), .val (.ref o25)] [(.ref o25)])
    refine Goes.step (fun _ k => XS.ifnullNo X25.here hx rfl (hb hby at_82) rfl k) ?_
    show Goes p e below s _ _ _ T25 (mkF m 85 #[.val (.int p1), .val (.int p2), .val (.int p3), .val (.int p4), .val (.int p5), .val (.int p6), .val (.int (2 : Int32)), .val (.ref b16), .val (.ref b21), .val (.ref o25)] [])
    refine Goes.step (fun _ k => XS.aload X25.here hx rfl (hb hby at_85) rfl rfl k) ?_
    show Goes p e below s _ _ _ T25 (mkF m 87 #[.val (.int p1), .val (.int p2), .val (.int p3), .val (.int p4), .val (.int p5), .val (.int p6), .val (.int (2 : Int32)), .val (.ref b16), .val (.ref b21), .val (.ref o25)] [(.ref o25)])
    refine Goes.step (fun _ k => rdL X25 hx hZ e25 Ao25 (g := (mkF m 87 #[.val (.int p1), .val (.int p2), .val (.int p3), .val (.int p4), .val (.int p5), .val (.int p6), .val (.int (2 : Int32)), .val (.ref b16), .val (.ref b21), .val (.ref o25)] [(.ref o25)])) rfl rfl (hb hby at_87) _ k) ?_
    show Goes p e below s _ _ _ T25 (mkF m 88 #[.val (.int p1), .val (.int p2), .val (.int p3), .val (.int p4), .val (.int p5), .val (.int p6), .val (.int (2 : Int32)), .val (.ref b16), .val (.ref b21), .val (.ref o25)] [(.int (Int32.ofNat 2))])
    as_aux_lemma =>
      refine Goes.step (fun _ k => XS.iload X25.here hx rfl (hb hby at_88) rfl k) ?_
      show Goes p e below s _ _ _ T25 (mkF m 90 #[.val (.int p1), .val (.int p2), .val (.int p3), .val (.int p4), .val (.int p5), .val (.int p6), .val (.int (2 : Int32)), .val (.ref b16), .val (.ref b21), .val (.ref o25)] [(.int (2 : Int32)), (.int (Int32.ofNat 2))])
      refine Goes.step (fun _ k => XS.icmpYes X25.here hx rfl (pc0 := 90) (pc' := 95) rfl (hb hby at_90) rfl (teq (by decide : (Int32.ofNat 2) = (2 : Int32))).1 (by decide) (by decide) k) ?_
      show Goes p e below s _ _ _ T25 (mkF m 95 #[.val (.int p1), .val (.int p2), .val (.int p3), .val (.int p4), .val (.int p5), .val (.int p6), .val (.int (2 : Int32)), .val (.ref b16), .val (.ref b21), .val (.ref o25)] [])
      refine Goes.step (fun _ k => XS.iload X25.here hx rfl (hb hby at_95) rfl k) ?_
      show Goes p e below s _ _ _ T25 (mkF m 97 #[.val (.int p1), .val (.int p2), .val (.int p3), .val (.int p4), .val (.int p5), .val (.int p6), .val (.int (2 : Int32)), .val (.ref b16), .val (.ref b21), .val (.ref o25)] [(.int (2 : Int32))])
      refine Goes.step (fun _ k => XS.ifNo X25.here hx rfl (hb hby at_97) rfl ((if0 _ _).trans (tlt (by decide : (0 : Int32) < (2 : Int32))).2.2.2) k) ?_
      show Goes p e below s _ _ _ T25 (mkF m 100 #[.val (.int p1), .val (.int p2), .val (.int p3), .val (.int p4), .val (.int p5), .val (.int p6), .val (.int (2 : Int32)), .val (.ref b16), .val (.ref b21), .val (.ref o25)] [])
      refine Goes.step (fun _ k => XS.aload X25.here hx rfl (hb hby at_100) rfl rfl k) ?_
      show Goes p e below s _ _ _ T25 (mkF m 102 #[.val (.int p1), .val (.int p2), .val (.int p3), .val (.int p4), .val (.int p5), .val (.int p6), .val (.int (2 : Int32)), .val (.ref b16), .val (.ref b21), .val (.ref o25)] [(.ref o25)])
      refine Goes.step (fun _ k => XS.iconst X25.here hx rfl (hb hby at_102) k) ?_
      show Goes p e below s _ _ _ T25 (mkF m 103 #[.val (.int p1), .val (.int p2), .val (.int p3), .val (.int p4), .val (.int p5), .val (.int p6), .val (.int (2 : Int32)), .val (.ref b16), .val (.ref b21), .val (.ref o25)] [(.int (0 : Int32)), (.ref o25)])
      refine Goes.step (fun _ k => rdI X25 hx hZ e25 Ao25 (0) rfl (by decide) (g := (mkF m 103 #[.val (.int p1), .val (.int p2), .val (.int p3), .val (.int p4), .val (.int p5), .val (.int p6), .val (.int (2 : Int32)), .val (.ref b16), .val (.ref b21), .val (.ref o25)] [(.int (0 : Int32)), (.ref o25)])) rfl rfl (hb hby at_103) _ k) ?_
      show Goes p e below s _ _ _ T25 (mkF m 104 #[.val (.int p1), .val (.int p2), .val (.int p3), .val (.int p4), .val (.int p5), .val (.int p6), .val (.int (2 : Int32)), .val (.ref b16), .val (.ref b21), .val (.ref o25)] [(.int ((own_F (own_codes p2 p3 p4) (own_bind p5 p6 p1)) (0)))])
      refine Goes.step (fun _ k => XS.iloadN X25.here hx rfl (hb hby at_104) rfl k) ?_
      show Goes p e below s _ _ _ T25 (mkF m 105 #[.val (.int p1), .val (.int p2), .val (.int p3), .val (.int p4), .val (.int p5), .val (.int p6), .val (.int (2 : Int32)), .val (.ref b16), .val (.ref b21), .val (.ref o25)] [(.int p2), (.int ((own_F (own_codes p2 p3 p4) (own_bind p5 p6 p1)) (0)))])
      refine Goes.step (fun _ k => XS.iload X25.here hx rfl (hb hby at_105) rfl k) ?_
      show Goes p e below s _ _ _ T25 (mkF m 107 #[.val (.int p1), .val (.int p2), .val (.int p3), .val (.int p4), .val (.int p5), .val (.int p6), .val (.int (2 : Int32)), .val (.ref b16), .val (.ref b21), .val (.ref o25)] [(.int p5), (.int p2), (.int ((own_F (own_codes p2 p3 p4) (own_bind p5 p6 p1)) (0)))])
      refine Goes.step (fun _ k => XS.iload X25.here hx rfl (hb hby at_107) rfl k) ?_
      show Goes p e below s _ _ _ T25 (mkF m 109 #[.val (.int p1), .val (.int p2), .val (.int p3), .val (.int p4), .val (.int p5), .val (.int p6), .val (.int (2 : Int32)), .val (.ref b16), .val (.ref b21), .val (.ref o25)] [(.int p6), (.int p5), (.int p2), (.int ((own_F (own_codes p2 p3 p4) (own_bind p5 p6 p1)) (0)))])
      refine Goes.step (fun _ k => XS.iloadN X25.here hx rfl (hb hby at_109) rfl k) ?_
      show Goes p e below s _ _ _ T25 (mkF m 110 #[.val (.int p1), .val (.int p2), .val (.int p3), .val (.int p4), .val (.int p5), .val (.int p6), .val (.int (2 : Int32)), .val (.ref b16), .val (.ref b21), .val (.ref o25)] [(.int p1), (.int p6), (.int p5), (.int p2), (.int ((own_F (own_codes p2 p3 p4) (own_bind p5 p6 p1)) (0)))])
      obtain ⟨T26, X26, e26, st26⟩ := callPure X25 hx hZ (y := (⟨"com/example/decompose/decompose/engine/BinderSubstitutePinLaw", "expect", "(IIII)I"⟩ : MethodName)) hown (hw _ (List.mem_of_getElem? (i := 9) rfl)) (hw _ (List.mem_of_getElem? (i := 10) rfl)) (hw _ (List.mem_of_getElem? (i := 7) rfl)) (hw _ (List.mem_of_getElem? (i := 11) rfl)) (by decide) (W := 1) (argsL := [(.int p2), (.int p5), (.int p6), (.int p1)]) (rest := [(.int ((own_F (own_codes p2 p3 p4) (own_bind p5 p6 p1)) (0)))]) (r := (.int (f3 p2 p5 p6 p1))) (fun _ _ _ q => q) (rm3 l Z a0 hw [] p2 p5 p6 p1 h25 ) (by decide) (by decide) (by decide) (by decide) e25 (g := (mkF m 110 #[.val (.int p1), .val (.int p2), .val (.int p3), .val (.int p4), .val (.int p5), .val (.int p6), .val (.int (2 : Int32)), .val (.ref b16), .val (.ref b21), .val (.ref o25)] [(.int p1), (.int p6), (.int p5), (.int p2), (.int ((own_F (own_codes p2 p3 p4) (own_bind p5 p6 p1)) (0)))])) rfl (by rw [hml]; rfl) (lenOf pd_0_2 rfl) rfl (by show 2 * 0 + _ ≤ _; exact Nat.le_of_eq rfl) (hb hby at_110)
      refine Goes.step st26 ?_
      show Goes p e below s _ _ _ T26 (mkF m 113 #[.val (.int p1), .val (.int p2), .val (.int p3), .val (.int p4), .val (.int p5), .val (.int p6), .val (.int (2 : Int32)), .val (.ref b16), .val (.ref b21), .val (.ref o25)] [(.int (f3 p2 p5 p6 p1)), (.int ((own_F (own_codes p2 p3 p4) (own_bind p5 p6 p1)) (0)))])
      refine Goes.step (fun _ k => XS.icmpYes X26.here hx rfl (pc0 := 113) (pc' := 118) rfl (hb hby at_113) rfl (teq (own_e0 p1 p2 p3 p4 p5 p6)).1 (by decide) (by decide) k) ?_
      show Goes p e below s _ _ _ T26 (mkF m 118 #[.val (.int p1), .val (.int p2), .val (.int p3), .val (.int p4), .val (.int p5), .val (.int p6), .val (.int (2 : Int32)), .val (.ref b16), .val (.ref b21), .val (.ref o25)] [])
      refine Goes.step (fun _ k => XS.iload X26.here hx rfl (hb hby at_118) rfl k) ?_
      show Goes p e below s _ _ _ T26 (mkF m 120 #[.val (.int p1), .val (.int p2), .val (.int p3), .val (.int p4), .val (.int p5), .val (.int p6), .val (.int (2 : Int32)), .val (.ref b16), .val (.ref b21), .val (.ref o25)] [(.int (2 : Int32))])
      refine Goes.step (fun _ k => XS.iconst X26.here hx rfl (hb hby at_120) k) ?_
      show Goes p e below s _ _ _ T26 (mkF m 121 #[.val (.int p1), .val (.int p2), .val (.int p3), .val (.int p4), .val (.int p5), .val (.int p6), .val (.int (2 : Int32)), .val (.ref b16), .val (.ref b21), .val (.ref o25)] [(.int (1 : Int32)), (.int (2 : Int32))])
      refine Goes.step (fun _ k => XS.icmpNo X26.here hx rfl (hb hby at_121) rfl (tlt (by decide : (1 : Int32) < (2 : Int32))).2.2.2 k) ?_
      show Goes p e below s _ _ _ T26 (mkF m 124 #[.val (.int p1), .val (.int p2), .val (.int p3), .val (.int p4), .val (.int p5), .val (.int p6), .val (.int (2 : Int32)), .val (.ref b16), .val (.ref b21), .val (.ref o25)] [])
      refine Goes.step (fun _ k => XS.aload X26.here hx rfl (hb hby at_124) rfl rfl k) ?_
      show Goes p e below s _ _ _ T26 (mkF m 126 #[.val (.int p1), .val (.int p2), .val (.int p3), .val (.int p4), .val (.int p5), .val (.int p6), .val (.int (2 : Int32)), .val (.ref b16), .val (.ref b21), .val (.ref o25)] [(.ref o25)])
      refine Goes.step (fun _ k => XS.iconst X26.here hx rfl (hb hby at_126) k) ?_
      show Goes p e below s _ _ _ T26 (mkF m 127 #[.val (.int p1), .val (.int p2), .val (.int p3), .val (.int p4), .val (.int p5), .val (.int p6), .val (.int (2 : Int32)), .val (.ref b16), .val (.ref b21), .val (.ref o25)] [(.int (1 : Int32)), (.ref o25)])
      refine Goes.step (fun _ k => rdI X26 hx hZ e26 Ao25 (1) rfl (by decide) (g := (mkF m 127 #[.val (.int p1), .val (.int p2), .val (.int p3), .val (.int p4), .val (.int p5), .val (.int p6), .val (.int (2 : Int32)), .val (.ref b16), .val (.ref b21), .val (.ref o25)] [(.int (1 : Int32)), (.ref o25)])) rfl rfl (hb hby at_127) _ k) ?_
      show Goes p e below s _ _ _ T26 (mkF m 128 #[.val (.int p1), .val (.int p2), .val (.int p3), .val (.int p4), .val (.int p5), .val (.int p6), .val (.int (2 : Int32)), .val (.ref b16), .val (.ref b21), .val (.ref o25)] [(.int ((own_F (own_codes p2 p3 p4) (own_bind p5 p6 p1)) (1)))])
      refine Goes.step (fun _ k => XS.iloadN X26.here hx rfl (hb hby at_128) rfl k) ?_
      show Goes p e below s _ _ _ T26 (mkF m 129 #[.val (.int p1), .val (.int p2), .val (.int p3), .val (.int p4), .val (.int p5), .val (.int p6), .val (.int (2 : Int32)), .val (.ref b16), .val (.ref b21), .val (.ref o25)] [(.int p3), (.int ((own_F (own_codes p2 p3 p4) (own_bind p5 p6 p1)) (1)))])
      refine Goes.step (fun _ k => XS.iload X26.here hx rfl (hb hby at_129) rfl k) ?_
      show Goes p e below s _ _ _ T26 (mkF m 131 #[.val (.int p1), .val (.int p2), .val (.int p3), .val (.int p4), .val (.int p5), .val (.int p6), .val (.int (2 : Int32)), .val (.ref b16), .val (.ref b21), .val (.ref o25)] [(.int p5), (.int p3), (.int ((own_F (own_codes p2 p3 p4) (own_bind p5 p6 p1)) (1)))])
      refine Goes.step (fun _ k => XS.iload X26.here hx rfl (hb hby at_131) rfl k) ?_
      show Goes p e below s _ _ _ T26 (mkF m 133 #[.val (.int p1), .val (.int p2), .val (.int p3), .val (.int p4), .val (.int p5), .val (.int p6), .val (.int (2 : Int32)), .val (.ref b16), .val (.ref b21), .val (.ref o25)] [(.int p6), (.int p5), (.int p3), (.int ((own_F (own_codes p2 p3 p4) (own_bind p5 p6 p1)) (1)))])
      refine Goes.step (fun _ k => XS.iloadN X26.here hx rfl (hb hby at_133) rfl k) ?_
      show Goes p e below s _ _ _ T26 (mkF m 134 #[.val (.int p1), .val (.int p2), .val (.int p3), .val (.int p4), .val (.int p5), .val (.int p6), .val (.int (2 : Int32)), .val (.ref b16), .val (.ref b21), .val (.ref o25)] [(.int p1), (.int p6), (.int p5), (.int p3), (.int ((own_F (own_codes p2 p3 p4) (own_bind p5 p6 p1)) (1)))])
      obtain ⟨T27, X27, e27, st27⟩ := callPure X26 hx hZ (y := (⟨"com/example/decompose/decompose/engine/BinderSubstitutePinLaw", "expect", "(IIII)I"⟩ : MethodName)) hown (hw _ (List.mem_of_getElem? (i := 9) rfl)) (hw _ (List.mem_of_getElem? (i := 10) rfl)) (hw _ (List.mem_of_getElem? (i := 7) rfl)) (hw _ (List.mem_of_getElem? (i := 11) rfl)) (by decide) (W := 1) (argsL := [(.int p3), (.int p5), (.int p6), (.int p1)]) (rest := [(.int ((own_F (own_codes p2 p3 p4) (own_bind p5 p6 p1)) (1)))]) (r := (.int (f3 p3 p5 p6 p1))) (fun _ _ _ q => q) (rm3 l Z a0 hw [] p3 p5 p6 p1 h25 ) (by decide) (by decide) (by decide) (by decide) e26 (g := (mkF m 134 #[.val (.int p1), .val (.int p2), .val (.int p3), .val (.int p4), .val (.int p5), .val (.int p6), .val (.int (2 : Int32)), .val (.ref b16), .val (.ref b21), .val (.ref o25)] [(.int p1), (.int p6), (.int p5), (.int p3), (.int ((own_F (own_codes p2 p3 p4) (own_bind p5 p6 p1)) (1)))])) rfl (by rw [hml]; rfl) (lenOf pd_0_2 rfl) rfl (by show 2 * 0 + _ ≤ _; exact Nat.le_of_eq rfl) (hb hby at_134)
      refine Goes.step st27 ?_
      show Goes p e below s _ _ _ T27 (mkF m 137 #[.val (.int p1), .val (.int p2), .val (.int p3), .val (.int p4), .val (.int p5), .val (.int p6), .val (.int (2 : Int32)), .val (.ref b16), .val (.ref b21), .val (.ref o25)] [(.int (f3 p3 p5 p6 p1)), (.int ((own_F (own_codes p2 p3 p4) (own_bind p5 p6 p1)) (1)))])
      refine Goes.step (fun _ k => XS.icmpYes X27.here hx rfl (pc0 := 137) (pc' := 142) rfl (hb hby at_137) rfl (teq (own_e1 p1 p2 p3 p4 p5 p6)).1 (by decide) (by decide) k) ?_
      show Goes p e below s _ _ _ T27 (mkF m 142 #[.val (.int p1), .val (.int p2), .val (.int p3), .val (.int p4), .val (.int p5), .val (.int p6), .val (.int (2 : Int32)), .val (.ref b16), .val (.ref b21), .val (.ref o25)] [])
      refine Goes.step (fun _ k => XS.iload X27.here hx rfl (hb hby at_142) rfl k) ?_
      show Goes p e below s _ _ _ T27 (mkF m 144 #[.val (.int p1), .val (.int p2), .val (.int p3), .val (.int p4), .val (.int p5), .val (.int p6), .val (.int (2 : Int32)), .val (.ref b16), .val (.ref b21), .val (.ref o25)] [(.int (2 : Int32))])
      refine Goes.step (fun _ k => XS.iconst X27.here hx rfl (hb hby at_144) k) ?_
      show Goes p e below s _ _ _ T27 (mkF m 145 #[.val (.int p1), .val (.int p2), .val (.int p3), .val (.int p4), .val (.int p5), .val (.int p6), .val (.int (2 : Int32)), .val (.ref b16), .val (.ref b21), .val (.ref o25)] [(.int (2 : Int32)), (.int (2 : Int32))])
      refine Goes.step (fun _ k => XS.icmpYes X27.here hx rfl (pc0 := 145) (pc' := 166) rfl (hb hby at_145) rfl (flt (by decide : ¬ ((2 : Int32) < (2 : Int32)))).2.2.2 (by decide) (by decide) k) ?_
      show Goes p e below s _ _ _ T27 (mkF m 166 #[.val (.int p1), .val (.int p2), .val (.int p3), .val (.int p4), .val (.int p5), .val (.int p6), .val (.int (2 : Int32)), .val (.ref b16), .val (.ref b21), .val (.ref o25)] [])
      refine Goes.step (fun _ k => XS.aload X27.here hx rfl (hb hby at_166) rfl rfl k) ?_
      show Goes p e below s _ _ _ T27 (mkF m 168 #[.val (.int p1), .val (.int p2), .val (.int p3), .val (.int p4), .val (.int p5), .val (.int p6), .val (.int (2 : Int32)), .val (.ref b16), .val (.ref b21), .val (.ref o25)] [(.ref b21)])
      refine Goes.step (fun _ k => XS.iconst X27.here hx rfl (hb hby at_168) k) ?_
      show Goes p e below s _ _ _ T27 (mkF m 169 #[.val (.int p1), .val (.int p2), .val (.int p3), .val (.int p4), .val (.int p5), .val (.int p6), .val (.int (2 : Int32)), .val (.ref b16), .val (.ref b21), .val (.ref o25)] [(.int (0 : Int32)), (.ref b21)])
      refine Goes.step (fun _ k => rdI X27 hx hZ e27 AB_25 (0) rfl (by decide) (g := (mkF m 169 #[.val (.int p1), .val (.int p2), .val (.int p3), .val (.int p4), .val (.int p5), .val (.int p6), .val (.int (2 : Int32)), .val (.ref b16), .val (.ref b21), .val (.ref o25)] [(.int (0 : Int32)), (.ref b21)])) rfl rfl (hb hby at_169) _ k) ?_
      show Goes p e below s _ _ _ T27 (mkF m 170 #[.val (.int p1), .val (.int p2), .val (.int p3), .val (.int p4), .val (.int p5), .val (.int p6), .val (.int (2 : Int32)), .val (.ref b16), .val (.ref b21), .val (.ref o25)] [(.int ((own_bind p5 p6 p1) (0)))])
      refine Goes.step (fun _ k => XS.iload X27.here hx rfl (hb hby at_170) rfl k) ?_
      show Goes p e below s _ _ _ T27 (mkF m 172 #[.val (.int p1), .val (.int p2), .val (.int p3), .val (.int p4), .val (.int p5), .val (.int p6), .val (.int (2 : Int32)), .val (.ref b16), .val (.ref b21), .val (.ref o25)] [(.int p5), (.int ((own_bind p5 p6 p1) (0)))])
      refine Goes.step (fun _ k => XS.icmpNo X27.here hx rfl (hb hby at_172) rfl (teq (rfl : own_bind p5 p6 p1 0 = p5)).2 k) ?_
      show Goes p e below s _ _ _ T27 (mkF m 175 #[.val (.int p1), .val (.int p2), .val (.int p3), .val (.int p4), .val (.int p5), .val (.int p6), .val (.int (2 : Int32)), .val (.ref b16), .val (.ref b21), .val (.ref o25)] [])
      refine Goes.step (fun _ k => XS.aload X27.here hx rfl (hb hby at_175) rfl rfl k) ?_
      show Goes p e below s _ _ _ T27 (mkF m 177 #[.val (.int p1), .val (.int p2), .val (.int p3), .val (.int p4), .val (.int p5), .val (.int p6), .val (.int (2 : Int32)), .val (.ref b16), .val (.ref b21), .val (.ref o25)] [(.ref b21)])
      refine Goes.step (fun _ k => XS.iconst X27.here hx rfl (hb hby at_177) k) ?_
      show Goes p e below s _ _ _ T27 (mkF m 178 #[.val (.int p1), .val (.int p2), .val (.int p3), .val (.int p4), .val (.int p5), .val (.int p6), .val (.int (2 : Int32)), .val (.ref b16), .val (.ref b21), .val (.ref o25)] [(.int (1 : Int32)), (.ref b21)])
      refine Goes.step (fun _ k => rdI X27 hx hZ e27 AB_25 (1) rfl (by decide) (g := (mkF m 178 #[.val (.int p1), .val (.int p2), .val (.int p3), .val (.int p4), .val (.int p5), .val (.int p6), .val (.int (2 : Int32)), .val (.ref b16), .val (.ref b21), .val (.ref o25)] [(.int (1 : Int32)), (.ref b21)])) rfl rfl (hb hby at_178) _ k) ?_
      show Goes p e below s _ _ _ T27 (mkF m 179 #[.val (.int p1), .val (.int p2), .val (.int p3), .val (.int p4), .val (.int p5), .val (.int p6), .val (.int (2 : Int32)), .val (.ref b16), .val (.ref b21), .val (.ref o25)] [(.int ((own_bind p5 p6 p1) (1)))])
      refine Goes.step (fun _ k => XS.iload X27.here hx rfl (hb hby at_179) rfl k) ?_
      show Goes p e below s _ _ _ T27 (mkF m 181 #[.val (.int p1), .val (.int p2), .val (.int p3), .val (.int p4), .val (.int p5), .val (.int p6), .val (.int (2 : Int32)), .val (.ref b16), .val (.ref b21), .val (.ref o25)] [(.int p6), (.int ((own_bind p5 p6 p1) (1)))])
      refine Goes.step (fun _ k => XS.icmpNo X27.here hx rfl (hb hby at_181) rfl (teq (rfl : own_bind p5 p6 p1 1 = p6)).2 k) ?_
      show Goes p e below s _ _ _ T27 (mkF m 184 #[.val (.int p1), .val (.int p2), .val (.int p3), .val (.int p4), .val (.int p5), .val (.int p6), .val (.int (2 : Int32)), .val (.ref b16), .val (.ref b21), .val (.ref o25)] [])
      refine Goes.step (fun _ k => XS.aload X27.here hx rfl (hb hby at_184) rfl rfl k) ?_
      show Goes p e below s _ _ _ T27 (mkF m 186 #[.val (.int p1), .val (.int p2), .val (.int p3), .val (.int p4), .val (.int p5), .val (.int p6), .val (.int (2 : Int32)), .val (.ref b16), .val (.ref b21), .val (.ref o25)] [(.ref b21)])
      refine Goes.step (fun _ k => XS.iconst X27.here hx rfl (hb hby at_186) k) ?_
      show Goes p e below s _ _ _ T27 (mkF m 187 #[.val (.int p1), .val (.int p2), .val (.int p3), .val (.int p4), .val (.int p5), .val (.int p6), .val (.int (2 : Int32)), .val (.ref b16), .val (.ref b21), .val (.ref o25)] [(.int (2 : Int32)), (.ref b21)])
      refine Goes.step (fun _ k => rdI X27 hx hZ e27 AB_25 (2) rfl (by decide) (g := (mkF m 187 #[.val (.int p1), .val (.int p2), .val (.int p3), .val (.int p4), .val (.int p5), .val (.int p6), .val (.int (2 : Int32)), .val (.ref b16), .val (.ref b21), .val (.ref o25)] [(.int (2 : Int32)), (.ref b21)])) rfl rfl (hb hby at_187) _ k) ?_
      show Goes p e below s _ _ _ T27 (mkF m 188 #[.val (.int p1), .val (.int p2), .val (.int p3), .val (.int p4), .val (.int p5), .val (.int p6), .val (.int (2 : Int32)), .val (.ref b16), .val (.ref b21), .val (.ref o25)] [(.int ((own_bind p5 p6 p1) (2)))])
      refine Goes.step (fun _ k => XS.iloadN X27.here hx rfl (hb hby at_188) rfl k) ?_
      show Goes p e below s _ _ _ T27 (mkF m 189 #[.val (.int p1), .val (.int p2), .val (.int p3), .val (.int p4), .val (.int p5), .val (.int p6), .val (.int (2 : Int32)), .val (.ref b16), .val (.ref b21), .val (.ref o25)] [(.int p1), (.int ((own_bind p5 p6 p1) (2)))])
      refine Goes.step (fun _ k => XS.icmpNo X27.here hx rfl (hb hby at_189) rfl (teq (rfl : own_bind p5 p6 p1 2 = p1)).2 k) ?_
      show Goes p e below s _ _ _ T27 (mkF m 192 #[.val (.int p1), .val (.int p2), .val (.int p3), .val (.int p4), .val (.int p5), .val (.int p6), .val (.int (2 : Int32)), .val (.ref b16), .val (.ref b21), .val (.ref o25)] [])
      refine Goes.step (fun _ k => XS.iconst X27.here hx rfl (hb hby at_192) k) ?_
      show Goes p e below s _ _ _ T27 (mkF m 193 #[.val (.int p1), .val (.int p2), .val (.int p3), .val (.int p4), .val (.int p5), .val (.int p6), .val (.int (2 : Int32)), .val (.ref b16), .val (.ref b21), .val (.ref o25)] [(.int (1 : Int32))])
      refine Goes.step (fun _ k => XS.goto X27.here hx rfl (pc0 := 193) (pc' := 197) rfl (hb hby at_193) (by decide) (by decide) k) ?_
      show Goes p e below s _ _ _ T27 (mkF m 197 #[.val (.int p1), .val (.int p2), .val (.int p3), .val (.int p4), .val (.int p5), .val (.int p6), .val (.int (2 : Int32)), .val (.ref b16), .val (.ref b21), .val (.ref o25)] [(.int (1 : Int32))])
      as_aux_lemma =>
        exact Goes.outN X27 hx hlk (t := .boolean) Bd.returns (by simp) (hb hby at_197) ⟨rfl, N_25⟩ (by decide) (by decide)
  · rw [hq]
    refine Goes.step (fun _ k => XS.istore X0.here hx rfl (hb hby at_3) rfl (l' := #[.val (.int p1), .val (.int p2), .val (.int p3), .val (.int p4), .val (.int p5), .val (.int p6), .val (.int (3 : Int32)), .unset, .unset, .unset]) rfl k) ?_
    show Goes p e below s _ _ _ s₁ (mkF m 5 #[.val (.int p1), .val (.int p2), .val (.int p3), .val (.int p4), .val (.int p5), .val (.int p6), .val (.int (3 : Int32)), .unset, .unset, .unset] [])
    refine Goes.step (fun _ k => XS.iload X0.here hx rfl (hb hby at_5) rfl k) ?_
    show Goes p e below s _ _ _ s₁ (mkF m 7 #[.val (.int p1), .val (.int p2), .val (.int p3), .val (.int p4), .val (.int p5), .val (.int p6), .val (.int (3 : Int32)), .unset, .unset, .unset] [(.int (3 : Int32))])
    obtain ⟨T28, h28, X28, e28, E28, A28, st28⟩ := newI X0 hx hZ (hw _ (List.mem_of_getElem? (i := 0) rfl)) e0 (g := (mkF m 7 #[.val (.int p1), .val (.int p2), .val (.int p3), .val (.int p4), .val (.int p5), .val (.int p6), .val (.int (3 : Int32)), .unset, .unset, .unset] [(.int (3 : Int32))])) rfl (hb hby at_7) rfl (N := 3) rfl (cap := 3) (by decide) (by decide) (by decide) (by decide) rfl (by decide)
    obtain ⟨b28, g_28⟩ : ∃ z, z = h0.size := ⟨_, rfl⟩
    rw [← g_28] at A28 st28
    refine Goes.step st28 ?_
    have ge_b28 : n0 ≤ b28 := by rw [g_28]; exact Z0
    have sz_b28 : h0.size ≤ b28 := by rw [g_28]; exact K0.1
    have z_28 : n0 ≤ h28.size := Nat.le_trans Z0 E28.1
    have K_28 : Keep h0 h28 [] := K0.ext E28
    have A_b28_28 : Ari Z h28 b28 .int (3) (fun _ => 0) := A28
    show Goes p e below s _ _ _ T28 (mkF m 9 #[.val (.int p1), .val (.int p2), .val (.int p3), .val (.int p4), .val (.int p5), .val (.int p6), .val (.int (3 : Int32)), .unset, .unset, .unset] [(.ref b28)])
    refine Goes.step (fun _ k => XS.astore X28.here hx rfl (hb hby at_9) rfl rfl (l' := #[.val (.int p1), .val (.int p2), .val (.int p3), .val (.int p4), .val (.int p5), .val (.int p6), .val (.int (3 : Int32)), .val (.ref b28), .unset, .unset]) rfl k) ?_
    show Goes p e below s _ _ _ T28 (mkF m 11 #[.val (.int p1), .val (.int p2), .val (.int p3), .val (.int p4), .val (.int p5), .val (.int p6), .val (.int (3 : Int32)), .val (.ref b28), .unset, .unset] [])
    refine Goes.step (fun _ k => XS.iload X28.here hx rfl (hb hby at_11) rfl k) ?_
    show Goes p e below s _ _ _ T28 (mkF m 13 #[.val (.int p1), .val (.int p2), .val (.int p3), .val (.int p4), .val (.int p5), .val (.int p6), .val (.int (3 : Int32)), .val (.ref b28), .unset, .unset] [(.int (3 : Int32))])
    refine Goes.step (fun _ k => XS.ifNo X28.here hx rfl (hb hby at_13) rfl ((if0 _ _).trans (tlt (by decide : (0 : Int32) < (3 : Int32))).2.2.2) k) ?_
    show Goes p e below s _ _ _ T28 (mkF m 16 #[.val (.int p1), .val (.int p2), .val (.int p3), .val (.int p4), .val (.int p5), .val (.int p6), .val (.int (3 : Int32)), .val (.ref b28), .unset, .unset] [])
    refine Goes.step (fun _ k => XS.aload X28.here hx rfl (hb hby at_16) rfl rfl k) ?_
    show Goes p e below s _ _ _ T28 (mkF m 18 #[.val (.int p1), .val (.int p2), .val (.int p3), .val (.int p4), .val (.int p5), .val (.int p6), .val (.int (3 : Int32)), .val (.ref b28), .unset, .unset] [(.ref b28)])
    refine Goes.step (fun _ k => XS.iconst X28.here hx rfl (hb hby at_18) k) ?_
    show Goes p e below s _ _ _ T28 (mkF m 19 #[.val (.int p1), .val (.int p2), .val (.int p3), .val (.int p4), .val (.int p5), .val (.int p6), .val (.int (3 : Int32)), .val (.ref b28), .unset, .unset] [(.int (0 : Int32)), (.ref b28)])
    refine Goes.step (fun _ k => XS.iloadN X28.here hx rfl (hb hby at_19) rfl k) ?_
    show Goes p e below s _ _ _ T28 (mkF m 20 #[.val (.int p1), .val (.int p2), .val (.int p3), .val (.int p4), .val (.int p5), .val (.int p6), .val (.int (3 : Int32)), .val (.ref b28), .unset, .unset] [(.int p2), (.int (0 : Int32)), (.ref b28)])
    obtain ⟨T29, X29, e29, st29⟩ := callPure X28 hx hZ (y := (⟨"com/example/decompose/decompose/engine/BinderSubstitutePinLaw", "code", "(I)I"⟩ : MethodName)) hown (hw _ (List.mem_of_getElem? (i := 5) rfl)) (hw _ (List.mem_of_getElem? (i := 6) rfl)) (hw _ (List.mem_of_getElem? (i := 7) rfl)) (hw _ (List.mem_of_getElem? (i := 8) rfl)) (by decide) (W := 2) (argsL := [(.int p2)]) (rest := [(.int (0 : Int32)), (.ref b28)]) (r := (.int (f2 p2))) (fun _ _ _ q => q) (rm2 l Z a0 hw [] p2 h28 ) (by decide) (by decide) (by decide) (by decide) e28 (g := (mkF m 20 #[.val (.int p1), .val (.int p2), .val (.int p3), .val (.int p4), .val (.int p5), .val (.int p6), .val (.int (3 : Int32)), .val (.ref b28), .unset, .unset] [(.int p2), (.int (0 : Int32)), (.ref b28)])) rfl (by rw [hml]; rfl) (lenOf pd_0_1 rfl) rfl (by show 2 * 0 + _ ≤ _; exact Nat.le_of_eq rfl) (hb hby at_20)
    refine Goes.step st29 ?_
    show Goes p e below s _ _ _ T29 (mkF m 23 #[.val (.int p1), .val (.int p2), .val (.int p3), .val (.int p4), .val (.int p5), .val (.int p6), .val (.int (3 : Int32)), .val (.ref b28), .unset, .unset] [(.int (f2 p2)), (.int (0 : Int32)), (.ref b28)])
    obtain ⟨T30, h30, X30, e30, W30, A30, st30⟩ := stoI X29 hx hZ e29 A_b28_28 (0) rfl (by decide) (g := (mkF m 23 #[.val (.int p1), .val (.int p2), .val (.int p3), .val (.int p4), .val (.int p5), .val (.int p6), .val (.int (3 : Int32)), .val (.ref b28), .unset, .unset] [(.int (f2 p2)), (.int (0 : Int32)), (.ref b28)])) rfl rfl (hb hby at_23)
    refine Goes.step st30 ?_
    have z_30 : n0 ≤ h30.size := by rw [W30.size]; exact z_28
    have K_30 : Keep h0 h30 [] := K_28.wr W30 (Or.inr sz_b28)
    have N_30 := Fr.snoc X30 N0 ge_b28
    have A_b28_30 : Ari Z h30 b28 .int (3) (updI (fun _ => 0) (0) (f2 p2)) := A30
    show Goes p e below s _ _ _ T30 (mkF m 24 #[.val (.int p1), .val (.int p2), .val (.int p3), .val (.int p4), .val (.int p5), .val (.int p6), .val (.int (3 : Int32)), .val (.ref b28), .unset, .unset] [])
    refine Goes.step (fun _ k => XS.iload X30.here hx rfl (hb hby at_24) rfl k) ?_
    show Goes p e below s _ _ _ T30 (mkF m 26 #[.val (.int p1), .val (.int p2), .val (.int p3), .val (.int p4), .val (.int p5), .val (.int p6), .val (.int (3 : Int32)), .val (.ref b28), .unset, .unset] [(.int (3 : Int32))])
    refine Goes.step (fun _ k => XS.iconst X30.here hx rfl (hb hby at_26) k) ?_
    show Goes p e below s _ _ _ T30 (mkF m 27 #[.val (.int p1), .val (.int p2), .val (.int p3), .val (.int p4), .val (.int p5), .val (.int p6), .val (.int (3 : Int32)), .val (.ref b28), .unset, .unset] [(.int (1 : Int32)), (.int (3 : Int32))])
    refine Goes.step (fun _ k => XS.icmpNo X30.here hx rfl (hb hby at_27) rfl (tlt (by decide : (1 : Int32) < (3 : Int32))).2.2.2 k) ?_
    show Goes p e below s _ _ _ T30 (mkF m 30 #[.val (.int p1), .val (.int p2), .val (.int p3), .val (.int p4), .val (.int p5), .val (.int p6), .val (.int (3 : Int32)), .val (.ref b28), .unset, .unset] [])
    refine Goes.step (fun _ k => XS.aload X30.here hx rfl (hb hby at_30) rfl rfl k) ?_
    show Goes p e below s _ _ _ T30 (mkF m 32 #[.val (.int p1), .val (.int p2), .val (.int p3), .val (.int p4), .val (.int p5), .val (.int p6), .val (.int (3 : Int32)), .val (.ref b28), .unset, .unset] [(.ref b28)])
    refine Goes.step (fun _ k => XS.iconst X30.here hx rfl (hb hby at_32) k) ?_
    show Goes p e below s _ _ _ T30 (mkF m 33 #[.val (.int p1), .val (.int p2), .val (.int p3), .val (.int p4), .val (.int p5), .val (.int p6), .val (.int (3 : Int32)), .val (.ref b28), .unset, .unset] [(.int (1 : Int32)), (.ref b28)])
    refine Goes.step (fun _ k => XS.iloadN X30.here hx rfl (hb hby at_33) rfl k) ?_
    show Goes p e below s _ _ _ T30 (mkF m 34 #[.val (.int p1), .val (.int p2), .val (.int p3), .val (.int p4), .val (.int p5), .val (.int p6), .val (.int (3 : Int32)), .val (.ref b28), .unset, .unset] [(.int p3), (.int (1 : Int32)), (.ref b28)])
    obtain ⟨T31, X31, e31, st31⟩ := callPure X30 hx hZ (y := (⟨"com/example/decompose/decompose/engine/BinderSubstitutePinLaw", "code", "(I)I"⟩ : MethodName)) hown (hw _ (List.mem_of_getElem? (i := 5) rfl)) (hw _ (List.mem_of_getElem? (i := 6) rfl)) (hw _ (List.mem_of_getElem? (i := 7) rfl)) (hw _ (List.mem_of_getElem? (i := 8) rfl)) (by decide) (W := 2) (argsL := [(.int p3)]) (rest := [(.int (1 : Int32)), (.ref b28)]) (r := (.int (f2 p3))) (fun _ _ _ q => q) (rm2 l Z a0 hw [] p3 h30 ) (by decide) (by decide) (by decide) (by decide) e30 (g := (mkF m 34 #[.val (.int p1), .val (.int p2), .val (.int p3), .val (.int p4), .val (.int p5), .val (.int p6), .val (.int (3 : Int32)), .val (.ref b28), .unset, .unset] [(.int p3), (.int (1 : Int32)), (.ref b28)])) rfl (by rw [hml]; rfl) (lenOf pd_0_1 rfl) rfl (by show 2 * 0 + _ ≤ _; exact Nat.le_of_eq rfl) (hb hby at_34)
    refine Goes.step st31 ?_
    show Goes p e below s _ _ _ T31 (mkF m 37 #[.val (.int p1), .val (.int p2), .val (.int p3), .val (.int p4), .val (.int p5), .val (.int p6), .val (.int (3 : Int32)), .val (.ref b28), .unset, .unset] [(.int (f2 p3)), (.int (1 : Int32)), (.ref b28)])
    obtain ⟨T32, h32, X32, e32, W32, A32, st32⟩ := stoI X31 hx hZ e31 A_b28_30 (1) rfl (by decide) (g := (mkF m 37 #[.val (.int p1), .val (.int p2), .val (.int p3), .val (.int p4), .val (.int p5), .val (.int p6), .val (.int (3 : Int32)), .val (.ref b28), .unset, .unset] [(.int (f2 p3)), (.int (1 : Int32)), (.ref b28)])) rfl rfl (hb hby at_37)
    refine Goes.step st32 ?_
    have z_32 : n0 ≤ h32.size := by rw [W32.size]; exact z_30
    have K_32 : Keep h0 h32 [] := K_30.wr W32 (Or.inr sz_b28)
    have N_32 := Fr.snoc X32 N_30 ge_b28
    have A_b28_32 : Ari Z h32 b28 .int (3) (updI (updI (fun _ => 0) (0) (f2 p2)) (1) (f2 p3)) := A32
    show Goes p e below s _ _ _ T32 (mkF m 38 #[.val (.int p1), .val (.int p2), .val (.int p3), .val (.int p4), .val (.int p5), .val (.int p6), .val (.int (3 : Int32)), .val (.ref b28), .unset, .unset] [])
    refine Goes.step (fun _ k => XS.iload X32.here hx rfl (hb hby at_38) rfl k) ?_
    show Goes p e below s _ _ _ T32 (mkF m 40 #[.val (.int p1), .val (.int p2), .val (.int p3), .val (.int p4), .val (.int p5), .val (.int p6), .val (.int (3 : Int32)), .val (.ref b28), .unset, .unset] [(.int (3 : Int32))])
    refine Goes.step (fun _ k => XS.iconst X32.here hx rfl (hb hby at_40) k) ?_
    show Goes p e below s _ _ _ T32 (mkF m 41 #[.val (.int p1), .val (.int p2), .val (.int p3), .val (.int p4), .val (.int p5), .val (.int p6), .val (.int (3 : Int32)), .val (.ref b28), .unset, .unset] [(.int (2 : Int32)), (.int (3 : Int32))])
    refine Goes.step (fun _ k => XS.icmpNo X32.here hx rfl (hb hby at_41) rfl (tlt (by decide : (2 : Int32) < (3 : Int32))).2.2.2 k) ?_
    show Goes p e below s _ _ _ T32 (mkF m 44 #[.val (.int p1), .val (.int p2), .val (.int p3), .val (.int p4), .val (.int p5), .val (.int p6), .val (.int (3 : Int32)), .val (.ref b28), .unset, .unset] [])
    refine Goes.step (fun _ k => XS.aload X32.here hx rfl (hb hby at_44) rfl rfl k) ?_
    show Goes p e below s _ _ _ T32 (mkF m 46 #[.val (.int p1), .val (.int p2), .val (.int p3), .val (.int p4), .val (.int p5), .val (.int p6), .val (.int (3 : Int32)), .val (.ref b28), .unset, .unset] [(.ref b28)])
    refine Goes.step (fun _ k => XS.iconst X32.here hx rfl (hb hby at_46) k) ?_
    show Goes p e below s _ _ _ T32 (mkF m 47 #[.val (.int p1), .val (.int p2), .val (.int p3), .val (.int p4), .val (.int p5), .val (.int p6), .val (.int (3 : Int32)), .val (.ref b28), .unset, .unset] [(.int (2 : Int32)), (.ref b28)])
    refine Goes.step (fun _ k => XS.iloadN X32.here hx rfl (hb hby at_47) rfl k) ?_
    show Goes p e below s _ _ _ T32 (mkF m 48 #[.val (.int p1), .val (.int p2), .val (.int p3), .val (.int p4), .val (.int p5), .val (.int p6), .val (.int (3 : Int32)), .val (.ref b28), .unset, .unset] [(.int p4), (.int (2 : Int32)), (.ref b28)])
    obtain ⟨T33, X33, e33, st33⟩ := callPure X32 hx hZ (y := (⟨"com/example/decompose/decompose/engine/BinderSubstitutePinLaw", "code", "(I)I"⟩ : MethodName)) hown (hw _ (List.mem_of_getElem? (i := 5) rfl)) (hw _ (List.mem_of_getElem? (i := 6) rfl)) (hw _ (List.mem_of_getElem? (i := 7) rfl)) (hw _ (List.mem_of_getElem? (i := 8) rfl)) (by decide) (W := 2) (argsL := [(.int p4)]) (rest := [(.int (2 : Int32)), (.ref b28)]) (r := (.int (f2 p4))) (fun _ _ _ q => q) (rm2 l Z a0 hw [] p4 h32 ) (by decide) (by decide) (by decide) (by decide) e32 (g := (mkF m 48 #[.val (.int p1), .val (.int p2), .val (.int p3), .val (.int p4), .val (.int p5), .val (.int p6), .val (.int (3 : Int32)), .val (.ref b28), .unset, .unset] [(.int p4), (.int (2 : Int32)), (.ref b28)])) rfl (by rw [hml]; rfl) (lenOf pd_0_1 rfl) rfl (by show 2 * 0 + _ ≤ _; exact Nat.le_of_eq rfl) (hb hby at_48)
    refine Goes.step st33 ?_
    show Goes p e below s _ _ _ T33 (mkF m 51 #[.val (.int p1), .val (.int p2), .val (.int p3), .val (.int p4), .val (.int p5), .val (.int p6), .val (.int (3 : Int32)), .val (.ref b28), .unset, .unset] [(.int (f2 p4)), (.int (2 : Int32)), (.ref b28)])
    obtain ⟨T34, h34, X34, e34, W34, A34, st34⟩ := stoI X33 hx hZ e33 A_b28_32 (2) rfl (by decide) (g := (mkF m 51 #[.val (.int p1), .val (.int p2), .val (.int p3), .val (.int p4), .val (.int p5), .val (.int p6), .val (.int (3 : Int32)), .val (.ref b28), .unset, .unset] [(.int (f2 p4)), (.int (2 : Int32)), (.ref b28)])) rfl rfl (hb hby at_51)
    refine Goes.step st34 ?_
    have z_34 : n0 ≤ h34.size := by rw [W34.size]; exact z_32
    have K_34 : Keep h0 h34 [] := K_32.wr W34 (Or.inr sz_b28)
    have N_34 := Fr.snoc X34 N_32 ge_b28
    have A_b28_34 : Ari Z h34 b28 .int (3) (updI (updI (updI (fun _ => 0) (0) (f2 p2)) (1) (f2 p3)) (2) (f2 p4)) := A34
    show Goes p e below s _ _ _ T34 (mkF m 52 #[.val (.int p1), .val (.int p2), .val (.int p3), .val (.int p4), .val (.int p5), .val (.int p6), .val (.int (3 : Int32)), .val (.ref b28), .unset, .unset] [])
    refine Goes.step (fun _ k => XS.iconst X34.here hx rfl (hb hby at_52) k) ?_
    show Goes p e below s _ _ _ T34 (mkF m 53 #[.val (.int p1), .val (.int p2), .val (.int p3), .val (.int p4), .val (.int p5), .val (.int p6), .val (.int (3 : Int32)), .val (.ref b28), .unset, .unset] [(.int (3 : Int32))])
    obtain ⟨T35, h35, X35, e35, E35, A35, st35⟩ := newI X34 hx hZ (hw _ (List.mem_of_getElem? (i := 0) rfl)) e34 (g := (mkF m 53 #[.val (.int p1), .val (.int p2), .val (.int p3), .val (.int p4), .val (.int p5), .val (.int p6), .val (.int (3 : Int32)), .val (.ref b28), .unset, .unset] [(.int (3 : Int32))])) rfl (hb hby at_53) rfl (N := 3) rfl (cap := 3) (by decide) (by decide) (by decide) (by decide) rfl (by decide)
    obtain ⟨b35, g_35⟩ : ∃ z, z = h34.size := ⟨_, rfl⟩
    rw [← g_35] at A35 st35
    refine Goes.step st35 ?_
    have ne_b28_b35 : b28 ≠ b35 := Nat.ne_of_lt (by rw [g_35]; exact A_b28_34.lt)
    have ge_b35 : n0 ≤ b35 := by rw [g_35]; exact z_34
    have sz_b35 : h0.size ≤ b35 := by rw [g_35]; exact K_34.1
    have A_b28_35 := A_b28_34.ext E35
    have z_35 : n0 ≤ h35.size := Nat.le_trans z_34 E35.1
    have K_35 : Keep h0 h35 [] := K_34.ext E35
    have A_b35_35 : Ari Z h35 b35 .int (3) (fun _ => 0) := A35
    show Goes p e below s _ _ _ T35 (mkF m 55 #[.val (.int p1), .val (.int p2), .val (.int p3), .val (.int p4), .val (.int p5), .val (.int p6), .val (.int (3 : Int32)), .val (.ref b28), .unset, .unset] [(.ref b35)])
    refine Goes.step (fun _ k => XS.dup X35.here hx rfl (hb hby at_55) rfl rfl k) ?_
    show Goes p e below s _ _ _ T35 (mkF m 56 #[.val (.int p1), .val (.int p2), .val (.int p3), .val (.int p4), .val (.int p5), .val (.int p6), .val (.int (3 : Int32)), .val (.ref b28), .unset, .unset] [(.ref b35), (.ref b35)])
    refine Goes.step (fun _ k => XS.iconst X35.here hx rfl (hb hby at_56) k) ?_
    show Goes p e below s _ _ _ T35 (mkF m 57 #[.val (.int p1), .val (.int p2), .val (.int p3), .val (.int p4), .val (.int p5), .val (.int p6), .val (.int (3 : Int32)), .val (.ref b28), .unset, .unset] [(.int (0 : Int32)), (.ref b35), (.ref b35)])
    refine Goes.step (fun _ k => XS.iload X35.here hx rfl (hb hby at_57) rfl k) ?_
    show Goes p e below s _ _ _ T35 (mkF m 59 #[.val (.int p1), .val (.int p2), .val (.int p3), .val (.int p4), .val (.int p5), .val (.int p6), .val (.int (3 : Int32)), .val (.ref b28), .unset, .unset] [(.int p5), (.int (0 : Int32)), (.ref b35), (.ref b35)])
    obtain ⟨T36, h36, X36, e36, W36, A36, st36⟩ := stoI X35 hx hZ e35 A_b35_35 (0) rfl (by decide) (g := (mkF m 59 #[.val (.int p1), .val (.int p2), .val (.int p3), .val (.int p4), .val (.int p5), .val (.int p6), .val (.int (3 : Int32)), .val (.ref b28), .unset, .unset] [(.int p5), (.int (0 : Int32)), (.ref b35), (.ref b35)])) rfl rfl (hb hby at_59)
    refine Goes.step st36 ?_
    have A_b28_36 := A_b28_35.other W36 ne_b28_b35
    have z_36 : n0 ≤ h36.size := by rw [W36.size]; exact z_35
    have K_36 : Keep h0 h36 [] := K_35.wr W36 (Or.inr sz_b35)
    have N_36 := Fr.snoc X36 N_34 ge_b35
    have A_b35_36 : Ari Z h36 b35 .int (3) (updI (fun _ => 0) (0) p5) := A36
    show Goes p e below s _ _ _ T36 (mkF m 60 #[.val (.int p1), .val (.int p2), .val (.int p3), .val (.int p4), .val (.int p5), .val (.int p6), .val (.int (3 : Int32)), .val (.ref b28), .unset, .unset] [(.ref b35)])
    refine Goes.step (fun _ k => XS.dup X36.here hx rfl (hb hby at_60) rfl rfl k) ?_
    show Goes p e below s _ _ _ T36 (mkF m 61 #[.val (.int p1), .val (.int p2), .val (.int p3), .val (.int p4), .val (.int p5), .val (.int p6), .val (.int (3 : Int32)), .val (.ref b28), .unset, .unset] [(.ref b35), (.ref b35)])
    refine Goes.step (fun _ k => XS.iconst X36.here hx rfl (hb hby at_61) k) ?_
    show Goes p e below s _ _ _ T36 (mkF m 62 #[.val (.int p1), .val (.int p2), .val (.int p3), .val (.int p4), .val (.int p5), .val (.int p6), .val (.int (3 : Int32)), .val (.ref b28), .unset, .unset] [(.int (1 : Int32)), (.ref b35), (.ref b35)])
    refine Goes.step (fun _ k => XS.iload X36.here hx rfl (hb hby at_62) rfl k) ?_
    show Goes p e below s _ _ _ T36 (mkF m 64 #[.val (.int p1), .val (.int p2), .val (.int p3), .val (.int p4), .val (.int p5), .val (.int p6), .val (.int (3 : Int32)), .val (.ref b28), .unset, .unset] [(.int p6), (.int (1 : Int32)), (.ref b35), (.ref b35)])
    obtain ⟨T37, h37, X37, e37, W37, A37, st37⟩ := stoI X36 hx hZ e36 A_b35_36 (1) rfl (by decide) (g := (mkF m 64 #[.val (.int p1), .val (.int p2), .val (.int p3), .val (.int p4), .val (.int p5), .val (.int p6), .val (.int (3 : Int32)), .val (.ref b28), .unset, .unset] [(.int p6), (.int (1 : Int32)), (.ref b35), (.ref b35)])) rfl rfl (hb hby at_64)
    refine Goes.step st37 ?_
    have A_b28_37 := A_b28_36.other W37 ne_b28_b35
    have z_37 : n0 ≤ h37.size := by rw [W37.size]; exact z_36
    have K_37 : Keep h0 h37 [] := K_36.wr W37 (Or.inr sz_b35)
    have N_37 := Fr.snoc X37 N_36 ge_b35
    have A_b35_37 : Ari Z h37 b35 .int (3) (updI (updI (fun _ => 0) (0) p5) (1) p6) := A37
    show Goes p e below s _ _ _ T37 (mkF m 65 #[.val (.int p1), .val (.int p2), .val (.int p3), .val (.int p4), .val (.int p5), .val (.int p6), .val (.int (3 : Int32)), .val (.ref b28), .unset, .unset] [(.ref b35)])
    refine Goes.step (fun _ k => XS.dup X37.here hx rfl (hb hby at_65) rfl rfl k) ?_
    show Goes p e below s _ _ _ T37 (mkF m 66 #[.val (.int p1), .val (.int p2), .val (.int p3), .val (.int p4), .val (.int p5), .val (.int p6), .val (.int (3 : Int32)), .val (.ref b28), .unset, .unset] [(.ref b35), (.ref b35)])
    refine Goes.step (fun _ k => XS.iconst X37.here hx rfl (hb hby at_66) k) ?_
    show Goes p e below s _ _ _ T37 (mkF m 67 #[.val (.int p1), .val (.int p2), .val (.int p3), .val (.int p4), .val (.int p5), .val (.int p6), .val (.int (3 : Int32)), .val (.ref b28), .unset, .unset] [(.int (2 : Int32)), (.ref b35), (.ref b35)])
    refine Goes.step (fun _ k => XS.iloadN X37.here hx rfl (hb hby at_67) rfl k) ?_
    show Goes p e below s _ _ _ T37 (mkF m 68 #[.val (.int p1), .val (.int p2), .val (.int p3), .val (.int p4), .val (.int p5), .val (.int p6), .val (.int (3 : Int32)), .val (.ref b28), .unset, .unset] [(.int p1), (.int (2 : Int32)), (.ref b35), (.ref b35)])
    obtain ⟨T38, h38, X38, e38, W38, A38, st38⟩ := stoI X37 hx hZ e37 A_b35_37 (2) rfl (by decide) (g := (mkF m 68 #[.val (.int p1), .val (.int p2), .val (.int p3), .val (.int p4), .val (.int p5), .val (.int p6), .val (.int (3 : Int32)), .val (.ref b28), .unset, .unset] [(.int p1), (.int (2 : Int32)), (.ref b35), (.ref b35)])) rfl rfl (hb hby at_68)
    refine Goes.step st38 ?_
    have A_b28_38 := A_b28_37.other W38 ne_b28_b35
    have z_38 : n0 ≤ h38.size := by rw [W38.size]; exact z_37
    have K_38 : Keep h0 h38 [] := K_37.wr W38 (Or.inr sz_b35)
    have N_38 := Fr.snoc X38 N_37 ge_b35
    have A_b35_38 : Ari Z h38 b35 .int (3) (updI (updI (updI (fun _ => 0) (0) p5) (1) p6) (2) p1) := A38
    show Goes p e below s _ _ _ T38 (mkF m 69 #[.val (.int p1), .val (.int p2), .val (.int p3), .val (.int p4), .val (.int p5), .val (.int p6), .val (.int (3 : Int32)), .val (.ref b28), .unset, .unset] [(.ref b35)])
    refine Goes.step (fun _ k => XS.astore X38.here hx rfl (hb hby at_69) rfl rfl (l' := #[.val (.int p1), .val (.int p2), .val (.int p3), .val (.int p4), .val (.int p5), .val (.int p6), .val (.int (3 : Int32)), .val (.ref b28), .val (.ref b35), .unset]) rfl k) ?_
    show Goes p e below s _ _ _ T38 (mkF m 71 #[.val (.int p1), .val (.int p2), .val (.int p3), .val (.int p4), .val (.int p5), .val (.int p6), .val (.int (3 : Int32)), .val (.ref b28), .val (.ref b35), .unset] [])
    refine Goes.step (fun _ k => XS.aload X38.here hx rfl (hb hby at_71) rfl rfl k) ?_
    show Goes p e below s _ _ _ T38 (mkF m 73 #[.val (.int p1), .val (.int p2), .val (.int p3), .val (.int p4), .val (.int p5), .val (.int p6), .val (.int (3 : Int32)), .val (.ref b28), .val (.ref b35), .unset] [(.ref b28)])
    refine Goes.step (fun _ k => XS.aload X38.here hx rfl (hb hby at_73) rfl rfl k) ?_
    show Goes p e below s _ _ _ T38 (mkF m 75 #[.val (.int p1), .val (.int p2), .val (.int p3), .val (.int p4), .val (.int p5), .val (.int p6), .val (.int (3 : Int32)), .val (.ref b28), .val (.ref b35), .unset] [(.ref b35), (.ref b28)])
    have AC := A_b28_38.cast (g := (own_codes p2 p3 p4)) (own_l3 (f2 p2) (f2 p3) (f2 p4))
    have AB := A_b35_38.cast (g := (own_bind p5 p6 p1)) (own_l3 p5 p6 p1)
    obtain ⟨v39, T39, h39, L39, X39, e39, Q39, st39⟩ := callX X38 hx hZ (y := (⟨"com/example/decompose/decompose/engine/Binder", "substitute", "([I[I)[I"⟩ : MethodName)) hown (hw _ (List.mem_of_getElem? (i := 1) rfl)) (hw _ (List.mem_of_getElem? (i := 2) rfl)) (hw _ (List.mem_of_getElem? (i := 3) rfl)) (hw _ (List.mem_of_getElem? (i := 4) rfl)) (by decide) (W := 0) (argsL := [(.ref b28), (.ref b35)]) (rest := []) (rm1 l Z a0 hw [] b28 b35 3 (own_codes p2 p3 p4) (own_bind p5 p6 p1) h38 n0 z_38 (by decide) (own_codes_lt p2 p3 p4 _) AC AB) (by decide) (by decide) (by decide) (by decide) e38 (g := (mkF m 75 #[.val (.int p1), .val (.int p2), .val (.int p3), .val (.int p4), .val (.int p5), .val (.int p6), .val (.int (3 : Int32)), .val (.ref b28), .val (.ref b35), .unset] [(.ref b35), (.ref b28)])) rfl (by rw [hml]; rfl) (lenOf pd_0_0 rfl) rfl (by show 2 * 0 + _ ≤ _; exact Nat.le_of_eq rfl) (hb hby at_75)
    obtain ⟨o39, rfl, NQ39, KQ39, so39, Ao39⟩ := Q39
    refine Goes.step st39 ?_
    have A_b28_39 := A_b28_38.keep KQ39 nin0
    have AB_39 := AB.keep KQ39 nin0
    have z_39 : n0 ≤ h39.size := Nat.le_trans z_38 KQ39.1
    have K_39 : Keep h0 h39 [] := Keep.trans K_38 KQ39 all0
    have N_39 := Fr.app N_38 NQ39
    show Goes p e below s _ _ _ T39 (mkF m 78 #[.val (.int p1), .val (.int p2), .val (.int p3), .val (.int p4), .val (.int p5), .val (.int p6), .val (.int (3 : Int32)), .val (.ref b28), .val (.ref b35), .unset] [(.ref o39)])
    as_aux_lemma =>
      refine Goes.step (fun _ k => XS.astore X39.here hx rfl (hb hby at_78) rfl rfl (l' := #[.val (.int p1), .val (.int p2), .val (.int p3), .val (.int p4), .val (.int p5), .val (.int p6), .val (.int (3 : Int32)), .val (.ref b28), .val (.ref b35), .val (.ref o39)]) rfl k) ?_
      show Goes p e below s _ _ _ T39 (mkF m 80 #[.val (.int p1), .val (.int p2), .val (.int p3), .val (.int p4), .val (.int p5), .val (.int p6), .val (.int (3 : Int32)), .val (.ref b28), .val (.ref b35), .val (.ref o39)] [])
      refine Goes.step (fun _ k => XS.aload X39.here hx rfl (hb hby at_80) rfl rfl k) ?_
      show Goes p e below s _ _ _ T39 (mkF m 82 #[.val (.int p1), .val (.int p2), .val (.int p3), .val (.int p4), .val (.int p5), .val (.int p6), .val (.int (3 : Int32)), .val (.ref b28), .val (.ref b35), .val (.ref o39)] [(.ref o39)])
      refine Goes.step (fun _ k => XS.ifnullNo X39.here hx rfl (hb hby at_82) rfl k) ?_
      show Goes p e below s _ _ _ T39 (mkF m 85 #[.val (.int p1), .val (.int p2), .val (.int p3), .val (.int p4), .val (.int p5), .val (.int p6), .val (.int (3 : Int32)), .val (.ref b28), .val (.ref b35), .val (.ref o39)] [])
      refine Goes.step (fun _ k => XS.aload X39.here hx rfl (hb hby at_85) rfl rfl k) ?_
      show Goes p e below s _ _ _ T39 (mkF m 87 #[.val (.int p1), .val (.int p2), .val (.int p3), .val (.int p4), .val (.int p5), .val (.int p6), .val (.int (3 : Int32)), .val (.ref b28), .val (.ref b35), .val (.ref o39)] [(.ref o39)])
      refine Goes.step (fun _ k => rdL X39 hx hZ e39 Ao39 (g := (mkF m 87 #[.val (.int p1), .val (.int p2), .val (.int p3), .val (.int p4), .val (.int p5), .val (.int p6), .val (.int (3 : Int32)), .val (.ref b28), .val (.ref b35), .val (.ref o39)] [(.ref o39)])) rfl rfl (hb hby at_87) _ k) ?_
      show Goes p e below s _ _ _ T39 (mkF m 88 #[.val (.int p1), .val (.int p2), .val (.int p3), .val (.int p4), .val (.int p5), .val (.int p6), .val (.int (3 : Int32)), .val (.ref b28), .val (.ref b35), .val (.ref o39)] [(.int (Int32.ofNat 3))])
      refine Goes.step (fun _ k => XS.iload X39.here hx rfl (hb hby at_88) rfl k) ?_
      show Goes p e below s _ _ _ T39 (mkF m 90 #[.val (.int p1), .val (.int p2), .val (.int p3), .val (.int p4), .val (.int p5), .val (.int p6), .val (.int (3 : Int32)), .val (.ref b28), .val (.ref b35), .val (.ref o39)] [(.int (3 : Int32)), (.int (Int32.ofNat 3))])
      refine Goes.step (fun _ k => XS.icmpYes X39.here hx rfl (pc0 := 90) (pc' := 95) rfl (hb hby at_90) rfl (teq (by decide : (Int32.ofNat 3) = (3 : Int32))).1 (by decide) (by decide) k) ?_
      show Goes p e below s _ _ _ T39 (mkF m 95 #[.val (.int p1), .val (.int p2), .val (.int p3), .val (.int p4), .val (.int p5), .val (.int p6), .val (.int (3 : Int32)), .val (.ref b28), .val (.ref b35), .val (.ref o39)] [])
      refine Goes.step (fun _ k => XS.iload X39.here hx rfl (hb hby at_95) rfl k) ?_
      show Goes p e below s _ _ _ T39 (mkF m 97 #[.val (.int p1), .val (.int p2), .val (.int p3), .val (.int p4), .val (.int p5), .val (.int p6), .val (.int (3 : Int32)), .val (.ref b28), .val (.ref b35), .val (.ref o39)] [(.int (3 : Int32))])
      refine Goes.step (fun _ k => XS.ifNo X39.here hx rfl (hb hby at_97) rfl ((if0 _ _).trans (tlt (by decide : (0 : Int32) < (3 : Int32))).2.2.2) k) ?_
      show Goes p e below s _ _ _ T39 (mkF m 100 #[.val (.int p1), .val (.int p2), .val (.int p3), .val (.int p4), .val (.int p5), .val (.int p6), .val (.int (3 : Int32)), .val (.ref b28), .val (.ref b35), .val (.ref o39)] [])
      refine Goes.step (fun _ k => XS.aload X39.here hx rfl (hb hby at_100) rfl rfl k) ?_
      show Goes p e below s _ _ _ T39 (mkF m 102 #[.val (.int p1), .val (.int p2), .val (.int p3), .val (.int p4), .val (.int p5), .val (.int p6), .val (.int (3 : Int32)), .val (.ref b28), .val (.ref b35), .val (.ref o39)] [(.ref o39)])
      refine Goes.step (fun _ k => XS.iconst X39.here hx rfl (hb hby at_102) k) ?_
      show Goes p e below s _ _ _ T39 (mkF m 103 #[.val (.int p1), .val (.int p2), .val (.int p3), .val (.int p4), .val (.int p5), .val (.int p6), .val (.int (3 : Int32)), .val (.ref b28), .val (.ref b35), .val (.ref o39)] [(.int (0 : Int32)), (.ref o39)])
      refine Goes.step (fun _ k => rdI X39 hx hZ e39 Ao39 (0) rfl (by decide) (g := (mkF m 103 #[.val (.int p1), .val (.int p2), .val (.int p3), .val (.int p4), .val (.int p5), .val (.int p6), .val (.int (3 : Int32)), .val (.ref b28), .val (.ref b35), .val (.ref o39)] [(.int (0 : Int32)), (.ref o39)])) rfl rfl (hb hby at_103) _ k) ?_
      show Goes p e below s _ _ _ T39 (mkF m 104 #[.val (.int p1), .val (.int p2), .val (.int p3), .val (.int p4), .val (.int p5), .val (.int p6), .val (.int (3 : Int32)), .val (.ref b28), .val (.ref b35), .val (.ref o39)] [(.int ((own_F (own_codes p2 p3 p4) (own_bind p5 p6 p1)) (0)))])
      refine Goes.step (fun _ k => XS.iloadN X39.here hx rfl (hb hby at_104) rfl k) ?_
      show Goes p e below s _ _ _ T39 (mkF m 105 #[.val (.int p1), .val (.int p2), .val (.int p3), .val (.int p4), .val (.int p5), .val (.int p6), .val (.int (3 : Int32)), .val (.ref b28), .val (.ref b35), .val (.ref o39)] [(.int p2), (.int ((own_F (own_codes p2 p3 p4) (own_bind p5 p6 p1)) (0)))])
      refine Goes.step (fun _ k => XS.iload X39.here hx rfl (hb hby at_105) rfl k) ?_
      show Goes p e below s _ _ _ T39 (mkF m 107 #[.val (.int p1), .val (.int p2), .val (.int p3), .val (.int p4), .val (.int p5), .val (.int p6), .val (.int (3 : Int32)), .val (.ref b28), .val (.ref b35), .val (.ref o39)] [(.int p5), (.int p2), (.int ((own_F (own_codes p2 p3 p4) (own_bind p5 p6 p1)) (0)))])
      refine Goes.step (fun _ k => XS.iload X39.here hx rfl (hb hby at_107) rfl k) ?_
      show Goes p e below s _ _ _ T39 (mkF m 109 #[.val (.int p1), .val (.int p2), .val (.int p3), .val (.int p4), .val (.int p5), .val (.int p6), .val (.int (3 : Int32)), .val (.ref b28), .val (.ref b35), .val (.ref o39)] [(.int p6), (.int p5), (.int p2), (.int ((own_F (own_codes p2 p3 p4) (own_bind p5 p6 p1)) (0)))])
      refine Goes.step (fun _ k => XS.iloadN X39.here hx rfl (hb hby at_109) rfl k) ?_
      show Goes p e below s _ _ _ T39 (mkF m 110 #[.val (.int p1), .val (.int p2), .val (.int p3), .val (.int p4), .val (.int p5), .val (.int p6), .val (.int (3 : Int32)), .val (.ref b28), .val (.ref b35), .val (.ref o39)] [(.int p1), (.int p6), (.int p5), (.int p2), (.int ((own_F (own_codes p2 p3 p4) (own_bind p5 p6 p1)) (0)))])
      obtain ⟨T40, X40, e40, st40⟩ := callPure X39 hx hZ (y := (⟨"com/example/decompose/decompose/engine/BinderSubstitutePinLaw", "expect", "(IIII)I"⟩ : MethodName)) hown (hw _ (List.mem_of_getElem? (i := 9) rfl)) (hw _ (List.mem_of_getElem? (i := 10) rfl)) (hw _ (List.mem_of_getElem? (i := 7) rfl)) (hw _ (List.mem_of_getElem? (i := 11) rfl)) (by decide) (W := 1) (argsL := [(.int p2), (.int p5), (.int p6), (.int p1)]) (rest := [(.int ((own_F (own_codes p2 p3 p4) (own_bind p5 p6 p1)) (0)))]) (r := (.int (f3 p2 p5 p6 p1))) (fun _ _ _ q => q) (rm3 l Z a0 hw [] p2 p5 p6 p1 h39 ) (by decide) (by decide) (by decide) (by decide) e39 (g := (mkF m 110 #[.val (.int p1), .val (.int p2), .val (.int p3), .val (.int p4), .val (.int p5), .val (.int p6), .val (.int (3 : Int32)), .val (.ref b28), .val (.ref b35), .val (.ref o39)] [(.int p1), (.int p6), (.int p5), (.int p2), (.int ((own_F (own_codes p2 p3 p4) (own_bind p5 p6 p1)) (0)))])) rfl (by rw [hml]; rfl) (lenOf pd_0_2 rfl) rfl (by show 2 * 0 + _ ≤ _; exact Nat.le_of_eq rfl) (hb hby at_110)
      refine Goes.step st40 ?_
      show Goes p e below s _ _ _ T40 (mkF m 113 #[.val (.int p1), .val (.int p2), .val (.int p3), .val (.int p4), .val (.int p5), .val (.int p6), .val (.int (3 : Int32)), .val (.ref b28), .val (.ref b35), .val (.ref o39)] [(.int (f3 p2 p5 p6 p1)), (.int ((own_F (own_codes p2 p3 p4) (own_bind p5 p6 p1)) (0)))])
      refine Goes.step (fun _ k => XS.icmpYes X40.here hx rfl (pc0 := 113) (pc' := 118) rfl (hb hby at_113) rfl (teq (own_e0 p1 p2 p3 p4 p5 p6)).1 (by decide) (by decide) k) ?_
      show Goes p e below s _ _ _ T40 (mkF m 118 #[.val (.int p1), .val (.int p2), .val (.int p3), .val (.int p4), .val (.int p5), .val (.int p6), .val (.int (3 : Int32)), .val (.ref b28), .val (.ref b35), .val (.ref o39)] [])
      refine Goes.step (fun _ k => XS.iload X40.here hx rfl (hb hby at_118) rfl k) ?_
      show Goes p e below s _ _ _ T40 (mkF m 120 #[.val (.int p1), .val (.int p2), .val (.int p3), .val (.int p4), .val (.int p5), .val (.int p6), .val (.int (3 : Int32)), .val (.ref b28), .val (.ref b35), .val (.ref o39)] [(.int (3 : Int32))])
      refine Goes.step (fun _ k => XS.iconst X40.here hx rfl (hb hby at_120) k) ?_
      show Goes p e below s _ _ _ T40 (mkF m 121 #[.val (.int p1), .val (.int p2), .val (.int p3), .val (.int p4), .val (.int p5), .val (.int p6), .val (.int (3 : Int32)), .val (.ref b28), .val (.ref b35), .val (.ref o39)] [(.int (1 : Int32)), (.int (3 : Int32))])
      refine Goes.step (fun _ k => XS.icmpNo X40.here hx rfl (hb hby at_121) rfl (tlt (by decide : (1 : Int32) < (3 : Int32))).2.2.2 k) ?_
      show Goes p e below s _ _ _ T40 (mkF m 124 #[.val (.int p1), .val (.int p2), .val (.int p3), .val (.int p4), .val (.int p5), .val (.int p6), .val (.int (3 : Int32)), .val (.ref b28), .val (.ref b35), .val (.ref o39)] [])
      refine Goes.step (fun _ k => XS.aload X40.here hx rfl (hb hby at_124) rfl rfl k) ?_
      show Goes p e below s _ _ _ T40 (mkF m 126 #[.val (.int p1), .val (.int p2), .val (.int p3), .val (.int p4), .val (.int p5), .val (.int p6), .val (.int (3 : Int32)), .val (.ref b28), .val (.ref b35), .val (.ref o39)] [(.ref o39)])
      refine Goes.step (fun _ k => XS.iconst X40.here hx rfl (hb hby at_126) k) ?_
      show Goes p e below s _ _ _ T40 (mkF m 127 #[.val (.int p1), .val (.int p2), .val (.int p3), .val (.int p4), .val (.int p5), .val (.int p6), .val (.int (3 : Int32)), .val (.ref b28), .val (.ref b35), .val (.ref o39)] [(.int (1 : Int32)), (.ref o39)])
      refine Goes.step (fun _ k => rdI X40 hx hZ e40 Ao39 (1) rfl (by decide) (g := (mkF m 127 #[.val (.int p1), .val (.int p2), .val (.int p3), .val (.int p4), .val (.int p5), .val (.int p6), .val (.int (3 : Int32)), .val (.ref b28), .val (.ref b35), .val (.ref o39)] [(.int (1 : Int32)), (.ref o39)])) rfl rfl (hb hby at_127) _ k) ?_
      show Goes p e below s _ _ _ T40 (mkF m 128 #[.val (.int p1), .val (.int p2), .val (.int p3), .val (.int p4), .val (.int p5), .val (.int p6), .val (.int (3 : Int32)), .val (.ref b28), .val (.ref b35), .val (.ref o39)] [(.int ((own_F (own_codes p2 p3 p4) (own_bind p5 p6 p1)) (1)))])
      refine Goes.step (fun _ k => XS.iloadN X40.here hx rfl (hb hby at_128) rfl k) ?_
      show Goes p e below s _ _ _ T40 (mkF m 129 #[.val (.int p1), .val (.int p2), .val (.int p3), .val (.int p4), .val (.int p5), .val (.int p6), .val (.int (3 : Int32)), .val (.ref b28), .val (.ref b35), .val (.ref o39)] [(.int p3), (.int ((own_F (own_codes p2 p3 p4) (own_bind p5 p6 p1)) (1)))])
      refine Goes.step (fun _ k => XS.iload X40.here hx rfl (hb hby at_129) rfl k) ?_
      show Goes p e below s _ _ _ T40 (mkF m 131 #[.val (.int p1), .val (.int p2), .val (.int p3), .val (.int p4), .val (.int p5), .val (.int p6), .val (.int (3 : Int32)), .val (.ref b28), .val (.ref b35), .val (.ref o39)] [(.int p5), (.int p3), (.int ((own_F (own_codes p2 p3 p4) (own_bind p5 p6 p1)) (1)))])
      refine Goes.step (fun _ k => XS.iload X40.here hx rfl (hb hby at_131) rfl k) ?_
      show Goes p e below s _ _ _ T40 (mkF m 133 #[.val (.int p1), .val (.int p2), .val (.int p3), .val (.int p4), .val (.int p5), .val (.int p6), .val (.int (3 : Int32)), .val (.ref b28), .val (.ref b35), .val (.ref o39)] [(.int p6), (.int p5), (.int p3), (.int ((own_F (own_codes p2 p3 p4) (own_bind p5 p6 p1)) (1)))])
      refine Goes.step (fun _ k => XS.iloadN X40.here hx rfl (hb hby at_133) rfl k) ?_
      show Goes p e below s _ _ _ T40 (mkF m 134 #[.val (.int p1), .val (.int p2), .val (.int p3), .val (.int p4), .val (.int p5), .val (.int p6), .val (.int (3 : Int32)), .val (.ref b28), .val (.ref b35), .val (.ref o39)] [(.int p1), (.int p6), (.int p5), (.int p3), (.int ((own_F (own_codes p2 p3 p4) (own_bind p5 p6 p1)) (1)))])
      obtain ⟨T41, X41, e41, st41⟩ := callPure X40 hx hZ (y := (⟨"com/example/decompose/decompose/engine/BinderSubstitutePinLaw", "expect", "(IIII)I"⟩ : MethodName)) hown (hw _ (List.mem_of_getElem? (i := 9) rfl)) (hw _ (List.mem_of_getElem? (i := 10) rfl)) (hw _ (List.mem_of_getElem? (i := 7) rfl)) (hw _ (List.mem_of_getElem? (i := 11) rfl)) (by decide) (W := 1) (argsL := [(.int p3), (.int p5), (.int p6), (.int p1)]) (rest := [(.int ((own_F (own_codes p2 p3 p4) (own_bind p5 p6 p1)) (1)))]) (r := (.int (f3 p3 p5 p6 p1))) (fun _ _ _ q => q) (rm3 l Z a0 hw [] p3 p5 p6 p1 h39 ) (by decide) (by decide) (by decide) (by decide) e40 (g := (mkF m 134 #[.val (.int p1), .val (.int p2), .val (.int p3), .val (.int p4), .val (.int p5), .val (.int p6), .val (.int (3 : Int32)), .val (.ref b28), .val (.ref b35), .val (.ref o39)] [(.int p1), (.int p6), (.int p5), (.int p3), (.int ((own_F (own_codes p2 p3 p4) (own_bind p5 p6 p1)) (1)))])) rfl (by rw [hml]; rfl) (lenOf pd_0_2 rfl) rfl (by show 2 * 0 + _ ≤ _; exact Nat.le_of_eq rfl) (hb hby at_134)
      refine Goes.step st41 ?_
      show Goes p e below s _ _ _ T41 (mkF m 137 #[.val (.int p1), .val (.int p2), .val (.int p3), .val (.int p4), .val (.int p5), .val (.int p6), .val (.int (3 : Int32)), .val (.ref b28), .val (.ref b35), .val (.ref o39)] [(.int (f3 p3 p5 p6 p1)), (.int ((own_F (own_codes p2 p3 p4) (own_bind p5 p6 p1)) (1)))])
      refine Goes.step (fun _ k => XS.icmpYes X41.here hx rfl (pc0 := 137) (pc' := 142) rfl (hb hby at_137) rfl (teq (own_e1 p1 p2 p3 p4 p5 p6)).1 (by decide) (by decide) k) ?_
      show Goes p e below s _ _ _ T41 (mkF m 142 #[.val (.int p1), .val (.int p2), .val (.int p3), .val (.int p4), .val (.int p5), .val (.int p6), .val (.int (3 : Int32)), .val (.ref b28), .val (.ref b35), .val (.ref o39)] [])
      refine Goes.step (fun _ k => XS.iload X41.here hx rfl (hb hby at_142) rfl k) ?_
      show Goes p e below s _ _ _ T41 (mkF m 144 #[.val (.int p1), .val (.int p2), .val (.int p3), .val (.int p4), .val (.int p5), .val (.int p6), .val (.int (3 : Int32)), .val (.ref b28), .val (.ref b35), .val (.ref o39)] [(.int (3 : Int32))])
      refine Goes.step (fun _ k => XS.iconst X41.here hx rfl (hb hby at_144) k) ?_
      show Goes p e below s _ _ _ T41 (mkF m 145 #[.val (.int p1), .val (.int p2), .val (.int p3), .val (.int p4), .val (.int p5), .val (.int p6), .val (.int (3 : Int32)), .val (.ref b28), .val (.ref b35), .val (.ref o39)] [(.int (2 : Int32)), (.int (3 : Int32))])
      refine Goes.step (fun _ k => XS.icmpNo X41.here hx rfl (hb hby at_145) rfl (tlt (by decide : (2 : Int32) < (3 : Int32))).2.2.2 k) ?_
      show Goes p e below s _ _ _ T41 (mkF m 148 #[.val (.int p1), .val (.int p2), .val (.int p3), .val (.int p4), .val (.int p5), .val (.int p6), .val (.int (3 : Int32)), .val (.ref b28), .val (.ref b35), .val (.ref o39)] [])
      refine Goes.step (fun _ k => XS.aload X41.here hx rfl (hb hby at_148) rfl rfl k) ?_
      show Goes p e below s _ _ _ T41 (mkF m 150 #[.val (.int p1), .val (.int p2), .val (.int p3), .val (.int p4), .val (.int p5), .val (.int p6), .val (.int (3 : Int32)), .val (.ref b28), .val (.ref b35), .val (.ref o39)] [(.ref o39)])
      refine Goes.step (fun _ k => XS.iconst X41.here hx rfl (hb hby at_150) k) ?_
      show Goes p e below s _ _ _ T41 (mkF m 151 #[.val (.int p1), .val (.int p2), .val (.int p3), .val (.int p4), .val (.int p5), .val (.int p6), .val (.int (3 : Int32)), .val (.ref b28), .val (.ref b35), .val (.ref o39)] [(.int (2 : Int32)), (.ref o39)])
      refine Goes.step (fun _ k => rdI X41 hx hZ e41 Ao39 (2) rfl (by decide) (g := (mkF m 151 #[.val (.int p1), .val (.int p2), .val (.int p3), .val (.int p4), .val (.int p5), .val (.int p6), .val (.int (3 : Int32)), .val (.ref b28), .val (.ref b35), .val (.ref o39)] [(.int (2 : Int32)), (.ref o39)])) rfl rfl (hb hby at_151) _ k) ?_
      show Goes p e below s _ _ _ T41 (mkF m 152 #[.val (.int p1), .val (.int p2), .val (.int p3), .val (.int p4), .val (.int p5), .val (.int p6), .val (.int (3 : Int32)), .val (.ref b28), .val (.ref b35), .val (.ref o39)] [(.int ((own_F (own_codes p2 p3 p4) (own_bind p5 p6 p1)) (2)))])
      refine Goes.step (fun _ k => XS.iloadN X41.here hx rfl (hb hby at_152) rfl k) ?_
      show Goes p e below s _ _ _ T41 (mkF m 153 #[.val (.int p1), .val (.int p2), .val (.int p3), .val (.int p4), .val (.int p5), .val (.int p6), .val (.int (3 : Int32)), .val (.ref b28), .val (.ref b35), .val (.ref o39)] [(.int p4), (.int ((own_F (own_codes p2 p3 p4) (own_bind p5 p6 p1)) (2)))])
      refine Goes.step (fun _ k => XS.iload X41.here hx rfl (hb hby at_153) rfl k) ?_
      show Goes p e below s _ _ _ T41 (mkF m 155 #[.val (.int p1), .val (.int p2), .val (.int p3), .val (.int p4), .val (.int p5), .val (.int p6), .val (.int (3 : Int32)), .val (.ref b28), .val (.ref b35), .val (.ref o39)] [(.int p5), (.int p4), (.int ((own_F (own_codes p2 p3 p4) (own_bind p5 p6 p1)) (2)))])
      refine Goes.step (fun _ k => XS.iload X41.here hx rfl (hb hby at_155) rfl k) ?_
      show Goes p e below s _ _ _ T41 (mkF m 157 #[.val (.int p1), .val (.int p2), .val (.int p3), .val (.int p4), .val (.int p5), .val (.int p6), .val (.int (3 : Int32)), .val (.ref b28), .val (.ref b35), .val (.ref o39)] [(.int p6), (.int p5), (.int p4), (.int ((own_F (own_codes p2 p3 p4) (own_bind p5 p6 p1)) (2)))])
      refine Goes.step (fun _ k => XS.iloadN X41.here hx rfl (hb hby at_157) rfl k) ?_
      show Goes p e below s _ _ _ T41 (mkF m 158 #[.val (.int p1), .val (.int p2), .val (.int p3), .val (.int p4), .val (.int p5), .val (.int p6), .val (.int (3 : Int32)), .val (.ref b28), .val (.ref b35), .val (.ref o39)] [(.int p1), (.int p6), (.int p5), (.int p4), (.int ((own_F (own_codes p2 p3 p4) (own_bind p5 p6 p1)) (2)))])
      obtain ⟨T42, X42, e42, st42⟩ := callPure X41 hx hZ (y := (⟨"com/example/decompose/decompose/engine/BinderSubstitutePinLaw", "expect", "(IIII)I"⟩ : MethodName)) hown (hw _ (List.mem_of_getElem? (i := 9) rfl)) (hw _ (List.mem_of_getElem? (i := 10) rfl)) (hw _ (List.mem_of_getElem? (i := 7) rfl)) (hw _ (List.mem_of_getElem? (i := 11) rfl)) (by decide) (W := 1) (argsL := [(.int p4), (.int p5), (.int p6), (.int p1)]) (rest := [(.int ((own_F (own_codes p2 p3 p4) (own_bind p5 p6 p1)) (2)))]) (r := (.int (f3 p4 p5 p6 p1))) (fun _ _ _ q => q) (rm3 l Z a0 hw [] p4 p5 p6 p1 h39 ) (by decide) (by decide) (by decide) (by decide) e41 (g := (mkF m 158 #[.val (.int p1), .val (.int p2), .val (.int p3), .val (.int p4), .val (.int p5), .val (.int p6), .val (.int (3 : Int32)), .val (.ref b28), .val (.ref b35), .val (.ref o39)] [(.int p1), (.int p6), (.int p5), (.int p4), (.int ((own_F (own_codes p2 p3 p4) (own_bind p5 p6 p1)) (2)))])) rfl (by rw [hml]; rfl) (lenOf pd_0_2 rfl) rfl (by show 2 * 0 + _ ≤ _; exact Nat.le_of_eq rfl) (hb hby at_158)
      refine Goes.step st42 ?_
      show Goes p e below s _ _ _ T42 (mkF m 161 #[.val (.int p1), .val (.int p2), .val (.int p3), .val (.int p4), .val (.int p5), .val (.int p6), .val (.int (3 : Int32)), .val (.ref b28), .val (.ref b35), .val (.ref o39)] [(.int (f3 p4 p5 p6 p1)), (.int ((own_F (own_codes p2 p3 p4) (own_bind p5 p6 p1)) (2)))])
      refine Goes.step (fun _ k => XS.icmpYes X42.here hx rfl (pc0 := 161) (pc' := 166) rfl (hb hby at_161) rfl (teq (own_e2 p1 p2 p3 p4 p5 p6)).1 (by decide) (by decide) k) ?_
      show Goes p e below s _ _ _ T42 (mkF m 166 #[.val (.int p1), .val (.int p2), .val (.int p3), .val (.int p4), .val (.int p5), .val (.int p6), .val (.int (3 : Int32)), .val (.ref b28), .val (.ref b35), .val (.ref o39)] [])
      refine Goes.step (fun _ k => XS.aload X42.here hx rfl (hb hby at_166) rfl rfl k) ?_
      show Goes p e below s _ _ _ T42 (mkF m 168 #[.val (.int p1), .val (.int p2), .val (.int p3), .val (.int p4), .val (.int p5), .val (.int p6), .val (.int (3 : Int32)), .val (.ref b28), .val (.ref b35), .val (.ref o39)] [(.ref b35)])
      refine Goes.step (fun _ k => XS.iconst X42.here hx rfl (hb hby at_168) k) ?_
      show Goes p e below s _ _ _ T42 (mkF m 169 #[.val (.int p1), .val (.int p2), .val (.int p3), .val (.int p4), .val (.int p5), .val (.int p6), .val (.int (3 : Int32)), .val (.ref b28), .val (.ref b35), .val (.ref o39)] [(.int (0 : Int32)), (.ref b35)])
      refine Goes.step (fun _ k => rdI X42 hx hZ e42 AB_39 (0) rfl (by decide) (g := (mkF m 169 #[.val (.int p1), .val (.int p2), .val (.int p3), .val (.int p4), .val (.int p5), .val (.int p6), .val (.int (3 : Int32)), .val (.ref b28), .val (.ref b35), .val (.ref o39)] [(.int (0 : Int32)), (.ref b35)])) rfl rfl (hb hby at_169) _ k) ?_
      show Goes p e below s _ _ _ T42 (mkF m 170 #[.val (.int p1), .val (.int p2), .val (.int p3), .val (.int p4), .val (.int p5), .val (.int p6), .val (.int (3 : Int32)), .val (.ref b28), .val (.ref b35), .val (.ref o39)] [(.int ((own_bind p5 p6 p1) (0)))])
      as_aux_lemma =>
        refine Goes.step (fun _ k => XS.iload X42.here hx rfl (hb hby at_170) rfl k) ?_
        show Goes p e below s _ _ _ T42 (mkF m 172 #[.val (.int p1), .val (.int p2), .val (.int p3), .val (.int p4), .val (.int p5), .val (.int p6), .val (.int (3 : Int32)), .val (.ref b28), .val (.ref b35), .val (.ref o39)] [(.int p5), (.int ((own_bind p5 p6 p1) (0)))])
        refine Goes.step (fun _ k => XS.icmpNo X42.here hx rfl (hb hby at_172) rfl (teq (rfl : own_bind p5 p6 p1 0 = p5)).2 k) ?_
        show Goes p e below s _ _ _ T42 (mkF m 175 #[.val (.int p1), .val (.int p2), .val (.int p3), .val (.int p4), .val (.int p5), .val (.int p6), .val (.int (3 : Int32)), .val (.ref b28), .val (.ref b35), .val (.ref o39)] [])
        refine Goes.step (fun _ k => XS.aload X42.here hx rfl (hb hby at_175) rfl rfl k) ?_
        show Goes p e below s _ _ _ T42 (mkF m 177 #[.val (.int p1), .val (.int p2), .val (.int p3), .val (.int p4), .val (.int p5), .val (.int p6), .val (.int (3 : Int32)), .val (.ref b28), .val (.ref b35), .val (.ref o39)] [(.ref b35)])
        refine Goes.step (fun _ k => XS.iconst X42.here hx rfl (hb hby at_177) k) ?_
        show Goes p e below s _ _ _ T42 (mkF m 178 #[.val (.int p1), .val (.int p2), .val (.int p3), .val (.int p4), .val (.int p5), .val (.int p6), .val (.int (3 : Int32)), .val (.ref b28), .val (.ref b35), .val (.ref o39)] [(.int (1 : Int32)), (.ref b35)])
        refine Goes.step (fun _ k => rdI X42 hx hZ e42 AB_39 (1) rfl (by decide) (g := (mkF m 178 #[.val (.int p1), .val (.int p2), .val (.int p3), .val (.int p4), .val (.int p5), .val (.int p6), .val (.int (3 : Int32)), .val (.ref b28), .val (.ref b35), .val (.ref o39)] [(.int (1 : Int32)), (.ref b35)])) rfl rfl (hb hby at_178) _ k) ?_
        show Goes p e below s _ _ _ T42 (mkF m 179 #[.val (.int p1), .val (.int p2), .val (.int p3), .val (.int p4), .val (.int p5), .val (.int p6), .val (.int (3 : Int32)), .val (.ref b28), .val (.ref b35), .val (.ref o39)] [(.int ((own_bind p5 p6 p1) (1)))])
        refine Goes.step (fun _ k => XS.iload X42.here hx rfl (hb hby at_179) rfl k) ?_
        show Goes p e below s _ _ _ T42 (mkF m 181 #[.val (.int p1), .val (.int p2), .val (.int p3), .val (.int p4), .val (.int p5), .val (.int p6), .val (.int (3 : Int32)), .val (.ref b28), .val (.ref b35), .val (.ref o39)] [(.int p6), (.int ((own_bind p5 p6 p1) (1)))])
        refine Goes.step (fun _ k => XS.icmpNo X42.here hx rfl (hb hby at_181) rfl (teq (rfl : own_bind p5 p6 p1 1 = p6)).2 k) ?_
        show Goes p e below s _ _ _ T42 (mkF m 184 #[.val (.int p1), .val (.int p2), .val (.int p3), .val (.int p4), .val (.int p5), .val (.int p6), .val (.int (3 : Int32)), .val (.ref b28), .val (.ref b35), .val (.ref o39)] [])
        refine Goes.step (fun _ k => XS.aload X42.here hx rfl (hb hby at_184) rfl rfl k) ?_
        show Goes p e below s _ _ _ T42 (mkF m 186 #[.val (.int p1), .val (.int p2), .val (.int p3), .val (.int p4), .val (.int p5), .val (.int p6), .val (.int (3 : Int32)), .val (.ref b28), .val (.ref b35), .val (.ref o39)] [(.ref b35)])
        refine Goes.step (fun _ k => XS.iconst X42.here hx rfl (hb hby at_186) k) ?_
        show Goes p e below s _ _ _ T42 (mkF m 187 #[.val (.int p1), .val (.int p2), .val (.int p3), .val (.int p4), .val (.int p5), .val (.int p6), .val (.int (3 : Int32)), .val (.ref b28), .val (.ref b35), .val (.ref o39)] [(.int (2 : Int32)), (.ref b35)])
        refine Goes.step (fun _ k => rdI X42 hx hZ e42 AB_39 (2) rfl (by decide) (g := (mkF m 187 #[.val (.int p1), .val (.int p2), .val (.int p3), .val (.int p4), .val (.int p5), .val (.int p6), .val (.int (3 : Int32)), .val (.ref b28), .val (.ref b35), .val (.ref o39)] [(.int (2 : Int32)), (.ref b35)])) rfl rfl (hb hby at_187) _ k) ?_
        show Goes p e below s _ _ _ T42 (mkF m 188 #[.val (.int p1), .val (.int p2), .val (.int p3), .val (.int p4), .val (.int p5), .val (.int p6), .val (.int (3 : Int32)), .val (.ref b28), .val (.ref b35), .val (.ref o39)] [(.int ((own_bind p5 p6 p1) (2)))])
        refine Goes.step (fun _ k => XS.iloadN X42.here hx rfl (hb hby at_188) rfl k) ?_
        show Goes p e below s _ _ _ T42 (mkF m 189 #[.val (.int p1), .val (.int p2), .val (.int p3), .val (.int p4), .val (.int p5), .val (.int p6), .val (.int (3 : Int32)), .val (.ref b28), .val (.ref b35), .val (.ref o39)] [(.int p1), (.int ((own_bind p5 p6 p1) (2)))])
        refine Goes.step (fun _ k => XS.icmpNo X42.here hx rfl (hb hby at_189) rfl (teq (rfl : own_bind p5 p6 p1 2 = p1)).2 k) ?_
        show Goes p e below s _ _ _ T42 (mkF m 192 #[.val (.int p1), .val (.int p2), .val (.int p3), .val (.int p4), .val (.int p5), .val (.int p6), .val (.int (3 : Int32)), .val (.ref b28), .val (.ref b35), .val (.ref o39)] [])
        refine Goes.step (fun _ k => XS.iconst X42.here hx rfl (hb hby at_192) k) ?_
        show Goes p e below s _ _ _ T42 (mkF m 193 #[.val (.int p1), .val (.int p2), .val (.int p3), .val (.int p4), .val (.int p5), .val (.int p6), .val (.int (3 : Int32)), .val (.ref b28), .val (.ref b35), .val (.ref o39)] [(.int (1 : Int32))])
        refine Goes.step (fun _ k => XS.goto X42.here hx rfl (pc0 := 193) (pc' := 197) rfl (hb hby at_193) (by decide) (by decide) k) ?_
        show Goes p e below s _ _ _ T42 (mkF m 197 #[.val (.int p1), .val (.int p2), .val (.int p3), .val (.int p4), .val (.int p5), .val (.int p6), .val (.int (3 : Int32)), .val (.ref b28), .val (.ref b35), .val (.ref o39)] [(.int (1 : Int32))])
        exact Goes.outN X42 hx hlk (t := .boolean) Bd.returns (by simp) (hb hby at_197) ⟨rfl, N_39⟩ (by decide) (by decide)
set_option maxRecDepth 65536 in
set_option maxHeartbeats 40000000 in
theorem comes_1 {Post : Tables → Env → Array Value → State → Outcome → State → Prop} (hpost : ∀ tb e args s v u, (limb_1_1.after args s (.returned v) u = true ∧ limb_1_2.after args s (.returned v) u = true ∧ True) → FrameEnd s (.returned v) u (Jvm.fieldLocs frame_1_writes args s ++ Jvm.arrayLocs frame_1_arrays args s ++ Jvm.staticLocs frame_1_statics s) 16 128 → Post tb e args s (.returned v) u) :
    ArmFor flags0 classFile x code maxLocals ret World_1 tables_1 room_1 Calls_1 rest_1 Pre_1 Post := by
  intro l hfl _ _ p e ha hc hk s m args below hf hA hF happ hP
  obtain ⟨hcalls, hrest, hpre⟩ := hP
  obtain ⟨-, -, -, hnamed, -, -, -, hat⟩ := (Spec.applies_iff hf).mp happ
  obtain ⟨hg, hn⟩ := and_e (Cond.before_iff.mp (show (Jvm.Cond.and given_1 narrow_1).before args s = true from hpre))
  obtain ⟨hcnt, g0⟩ := and_e hg
  obtain ⟨i0, g1⟩ := and_e g0
  obtain ⟨i1, g2⟩ := and_e g1
  obtain ⟨i2, g3⟩ := and_e g2
  obtain ⟨i3, g4⟩ := and_e g3
  obtain ⟨i4, g5⟩ := and_e g4
  have i5 := g5
  obtain ⟨w0, w1, w2, w3, w4, w5, rfl⟩ : ∃ w0 w1 w2 w3 w4 w5 : Value, args = #[w0, w1, w2, w3, w4, w5] := by
    have hs : args.size = 6 := by simpa [Cond.value, given_1] using hcnt
    obtain ⟨L⟩ := args
    match L, hs with
    | [w0, w1, w2, w3, w4, w5], _ => exact ⟨w0, w1, w2, w3, w4, w5, rfl⟩
  have hw := fun d (hd : d ∈ tables_1) => atoms_spec (ws := Jvm.Cond.code x code maxLocals ret :: tables_1) hat d (List.mem_cons_of_mem _ hd)
  obtain ⟨z0, e0⟩ := is_v i0
  obtain rfl : w0 = (.int z0) := Option.some.inj e0
  obtain ⟨z1, e1⟩ := is_v i1
  obtain rfl : w1 = (.int z1) := Option.some.inj e1
  obtain ⟨z2, e2⟩ := is_v i2
  obtain rfl : w2 = (.int z2) := Option.some.inj e2
  obtain ⟨z3, e3⟩ := is_v i3
  obtain rfl : w3 = (.int z3) := Option.some.inj e3
  obtain ⟨z4, e4⟩ := is_v i4
  obtain rfl : w4 = (.int z4) := Option.some.inj e4
  obtain ⟨z5, e5⟩ := is_v i5
  obtain rfl : w5 = (.int z5) := Option.some.inj e5
  obtain ⟨n, o, h1, h2, h3, v, L, rfl, ⟨rfl, N⟩, hq⟩ := rm0 l s _ hw tables_1 z0 z1 z2 z3 z4 z5  s.heap s.heap.size (Nat.le_refl _)  p e ha hc hk s m _ below hf ((Spec.applies_iff_loose hf).mp happ).1 ⟨rfl, State.Warmed39.refl s, rfl⟩ trivial
  refine ⟨n, _, h1, h2, h3, hpost _ _ _ _ _ _ ⟨Cond.after_iff.mpr rfl, Cond.after_iff.mpr (eq_i res_at (Term.int_eval (1)) rfl), trivial⟩ ⟨hq.1, hq.2.1, (hq.2.2.sift fun y hy => Or.inr (N y hy)).mono (by decide) (by decide)⟩⟩
theorem main_1_1 : Claimed_1_1 := comes_1 fun _ _ _ _ _ _ h hF => ⟨h.1, hF⟩
theorem main_1_2 : Claimed_1_2 := comes_1 fun _ _ _ _ _ _ h hF => ⟨h.2.1, hF⟩
end Jvm.Pilot.@@N@@
namespace Jvm.Pilot.@@N@@
open Jvm Jvm.ClassFile Sem Op Lib Jvm.Free Jvm.Stand Jvm.Pilot.@@N@@.Jvm.D
/-! MADE BY PROGRAM (witnessworld.py) out of the Statement's table words and the real class files: 9 classes; the members and pool entries that the words name. The judged class is class 1, her method 1. -/
namespace start1
open Jvm.ClassFile
def u (s : String) : CpInfo := .utf8 (stringToUtf16 s)
/-- a pool by its gaps: so many unusable entries, then the entry; so many at the end -/
def gap : Nat → List CpInfo → List CpInfo
  | 0, r => r
  | n + 1, r => .unusable :: gap n r
def poolList (es : List (Nat × CpInfo)) (last : Nat) : List CpInfo := es.foldr (fun e r => gap e.1 (e.2 :: r)) (gap last [])
def pool (es : List (Nat × CpInfo)) (last : Nat) : Array CpInfo := ⟨poolList es last⟩
def fileOf (pool : Array CpInfo) (this : Nat) (attrs : Array Attribute := #[]) (ms : Array MethodInfo := #[]) (fl : Nat := 33) (sup : Nat := 0) (ifs : Array Nat := #[]) (fds : Array FieldInfo := #[]) : ClassFile where
  minorVersion := 0
  majorVersion := 65
  constantPool := pool
  accessFlags := fl
  thisClass := this
  superClass := sup
  interfaces := ifs
  fields := fds
  methods := ms
  attributes := attrs
def plain (name : String) (sup : Option ClassId) : Class where
  name := name
  kind := .ordinary
  loader := none
  accessFlags := 33
  super := sup
  interfaces := #[]
  cf := none
  fields := #[]
  methods := #[]
  instanceTypes := #[]
  staticTypes := #[]
  resolved := #[]
  callSites := []
  init := .initialized
  statics := none
  mirror := none

def pool0 : Array CpInfo := pool [(5, u "<init>"), (0, u "()V"), (1, .class_ 10), (1, u "java/lang/Object")] 113

def k0m0 : Method := { name := "<init>", desc := "()V", sig := { parameters := [], returnType := none }, accessFlags := 1, code := none }
/-- java/lang/Object -/
def k0 : Class := { plain "java/lang/Object" none with
  accessFlags := 33
  interfaces := #[]
  cf := some (fileOf pool0 8 #[] #[{ accessFlags := 1, nameIndex := 5, descriptorIndex := 6, attributes := #[] }] 33 0 #[] #[])
  fields := #[]
  methods := #[k0m0]
  instanceTypes := #[]
  staticTypes := #[]
  resolved := Array.replicate 124 none
  statics := none }

def pool1 : Array CpInfo := pool [(2, .class_ 4), (1, u "java/lang/Object"), (0, u "<init>"), (0, u "()V"), (0, .methodref 8 9), (0, .class_ 10), (0, .nameAndType 11 12), (0, u "com/example/decompose/decompose/engine/BinderSubstitutePinLaw"), (0, u "code"), (0, u "(I)I"), (0, .methodref 14 15), (0, .class_ 16), (0, .nameAndType 17 18), (0, u "com/example/decompose/decompose/engine/Binder"), (0, u "substitute"), (0, u "([I[I)[I"), (0, .methodref 8 20), (0, .nameAndType 21 22), (0, u "expect"), (0, u "(IIII)I"), (2, u "law"), (0, u "(IIIIII)Z")] 5

def k1m0 : Method := { name := "<init>", desc := "()V", sig := { parameters := [], returnType := none }, accessFlags := 1, code := none }
def k1c1 : Code := { maxStack := 5, maxLocals := 10, code := code, exceptionTable := #[], attributes := #[] }
def k1m1 : Method := { name := "law", desc := "(IIIIII)Z", sig := { parameters := [.int, .int, .int, .int, .int, .int], returnType := some .boolean }, accessFlags := 9, code := some k1c1 }
def k1c2 : Code := { maxStack := 2, maxLocals := 1, code := method_3_code, exceptionTable := #[], attributes := #[] }
def k1m2 : Method := { name := "code", desc := "(I)I", sig := { parameters := [.int], returnType := some .int }, accessFlags := 10, code := some k1c2 }
def k1c3 : Code := { maxStack := 2, maxLocals := 5, code := method_4_code, exceptionTable := #[], attributes := #[] }
def k1m3 : Method := { name := "expect", desc := "(IIII)I", sig := { parameters := [.int, .int, .int, .int], returnType := some .int }, accessFlags := 10, code := some k1c3 }
/-- com/example/decompose/decompose/engine/BinderSubstitutePinLaw -/
def k1 : Class := { plain "com/example/decompose/decompose/engine/BinderSubstitutePinLaw" (some 0) with
  accessFlags := 49
  interfaces := #[]
  cf := some (fileOf pool1 8 #[] #[{ accessFlags := 1, nameIndex := 5, descriptorIndex := 6, attributes := #[] }, { accessFlags := 9, nameIndex := 25, descriptorIndex := 26, attributes := #[] }, { accessFlags := 10, nameIndex := 11, descriptorIndex := 12, attributes := #[] }, { accessFlags := 10, nameIndex := 21, descriptorIndex := 22, attributes := #[] }] 49 2 #[] #[])
  fields := #[]
  methods := #[k1m0, k1m1, k1m2, k1m3]
  instanceTypes := #[]
  staticTypes := #[]
  resolved := Array.replicate 32 none
  statics := none }

def pool2 : Array CpInfo := pool [(2, .class_ 4), (1, u "java/lang/Object"), (6, .class_ 13), (1, u "com/example/decompose/decompose/engine/Binder"), (0, u "objectNames"), (0, u "Ljava/util/List;"), (5, u "objectNumbers"), (0, u "Ljava/util/Map;"), (2, u "objectsByType"), (2, u "typeMembers"), (2, u "deadline"), (0, u "Lcom/example/decompose/decompose/engine/Deadline;"), (99, .class_ 133), (0, u "com/example/decompose/decompose/engine/Binder$Schema"), (5, .class_ 140), (0, u "com/example/decompose/decompose/engine/Binder$Comparison"), (17, .class_ 159), (0, u "com/example/decompose/decompose/engine/Binder$Search"), (40, u "substitute"), (0, u "([I[I)[I"), (6, .class_ 209), (0, u "com/example/decompose/decompose/engine/Binder$Pattern")] 28

def k2c0 : Code := { maxStack := 5, maxLocals := 4, code := prog_4_method_6_code, exceptionTable := #[], attributes := #[] }
def k2m0 : Method := { name := "substitute", desc := "([I[I)[I", sig := { parameters := [(.array .int), (.array .int)], returnType := some (.array .int) }, accessFlags := 8, code := some k2c0 }
/-- com/example/decompose/decompose/engine/Binder -/
def k2 : Class := { plain "com/example/decompose/decompose/engine/Binder" (some 0) with
  accessFlags := 48
  interfaces := #[]
  cf := some (fileOf pool2 11 #[.nestMembers #[158, 139, 208, 132]] #[{ accessFlags := 8, nameIndex := 200, descriptorIndex := 201, attributes := #[] }] 48 2 #[] #[{ accessFlags := 18, nameIndex := 14, descriptorIndex := 15, attributes := #[] }, { accessFlags := 18, nameIndex := 21, descriptorIndex := 22, attributes := #[] }, { accessFlags := 18, nameIndex := 25, descriptorIndex := 22, attributes := #[] }, { accessFlags := 18, nameIndex := 28, descriptorIndex := 22, attributes := #[] }, { accessFlags := 18, nameIndex := 31, descriptorIndex := 32, attributes := #[] }])
  fields := #[{ name := "objectNames", type := (.object "java/util/List"), accessFlags := 18, slot := 0, constantValue := 0 }, { name := "objectNumbers", type := (.object "java/util/Map"), accessFlags := 18, slot := 1, constantValue := 0 }, { name := "objectsByType", type := (.object "java/util/Map"), accessFlags := 18, slot := 2, constantValue := 0 }, { name := "typeMembers", type := (.object "java/util/Map"), accessFlags := 18, slot := 3, constantValue := 0 }, { name := "deadline", type := (.object "com/example/decompose/decompose/engine/Deadline"), accessFlags := 18, slot := 4, constantValue := 0 }]
  methods := #[k2m0]
  instanceTypes := #[(.object "java/util/List"), (.object "java/util/Map"), (.object "java/util/Map"), (.object "java/util/Map"), (.object "com/example/decompose/decompose/engine/Deadline")]
  staticTypes := #[]
  resolved := Array.replicate 238 none
  statics := none }

def pool3 : Array CpInfo := pool [(1, u "java/lang/Cloneable"), (0, .class_ 1), (0, u "java/lang/Object"), (0, .class_ 3)] 3

/-- java/lang/Cloneable -/
def k3 : Class := { plain "java/lang/Cloneable" (some 0) with
  accessFlags := 1537
  interfaces := #[]
  cf := some (fileOf pool3 2 #[] #[] 1537 4 #[] #[])
  fields := #[]
  methods := #[]
  instanceTypes := #[]
  staticTypes := #[]
  resolved := Array.replicate 8 none
  statics := none }

def pool4 : Array CpInfo := pool [(1, u "java/io/Serializable"), (0, .class_ 1), (0, u "java/lang/Object"), (0, .class_ 3)] 3

/-- java/io/Serializable -/
def k4 : Class := { plain "java/io/Serializable" (some 0) with
  accessFlags := 1537
  interfaces := #[]
  cf := some (fileOf pool4 2 #[] #[] 1537 4 #[] #[])
  fields := #[]
  methods := #[]
  instanceTypes := #[]
  staticTypes := #[]
  resolved := Array.replicate 8 none
  statics := none }

/-- the primitive byte -/
def k5 : Class := { plain "byte" none with kind := .primitive 'B', accessFlags := 0x411 }
/-- [B -/
def k6 : Class := { plain "[B" (some 0) with kind := .array 5 .byte, interfaces := #[3, 4], accessFlags := 1041 }

/-- the primitive int -/
def k7 : Class := { plain "int" none with kind := .primitive 'I', accessFlags := 0x411 }
/-- [I -/
def k8 : Class := { plain "[I" (some 0) with kind := .array 7 .int, interfaces := #[3, 4], accessFlags := 1041 }

def heap : Heap := #[]
def classes : Array Class := #[k0, k1, k2, k3, k4, k5, k6, k7, k8]
def interned : List (Array UInt16 × Addr) := []
def slotsUsed : Nat := 0
def theMethod : MethodId := ⟨1, 1⟩
def args0 : Array Value := #[.int 3, .int 5, .int (-4), .int 1, .int 7, .int 8]
def aboutOver (below : List Frame) : State where
  vm := { classes := classes, interned := interned.toArray }
  heap := heap
  slotsUsed := slotsUsed
  threads := #[{ frames := .invoking theMethod args0 :: below }]
def below0 : List Frame := [.native { method := ⟨0, 0⟩, args := #[] }]
def about1 : State := aboutOver below0
def p0 : Program := .bare "" "" ""
def e0 : Env := launch0.env 0 0 0
theorem w_frames : about1.frames = Frame.invoking theMethod args0 :: below0 := rfl
set_option maxRecDepth 65536 in
theorem w_args : argsFit about1.vm theMethod args0 = true := by decide +kernel
set_option maxRecDepth 65536 in
theorem w_heap : heapFits about1 = true := by decide +kernel
set_option maxRecDepth 65536 in
theorem w_runnable : about1.curStatus? = some .runnable := by decide +kernel
set_option maxRecDepth 65536 in
theorem w_alone : about1.alone = true := by decide +kernel
set_option maxRecDepth 65536 in
theorem w_named : about1.methodNamed? x = some theMethod := by decide +kernel
set_option maxRecDepth 65536 in
theorem w_hears : about1.hears theMethod below0 = true := by decide +kernel
set_option maxRecDepth 65536 in
theorem w_ripe : about1.ripe theMethod args0 below0 = true := by decide +kernel
theorem w_running : about1.status = .running := rfl
set_option maxRecDepth 65536 in
theorem w_room : about1.hasRoom e0.platform room_1 = true :=
  launch0.hasRoom_least _ room_1 (by decide +kernel) (by decide +kernel) (by decide +kernel) (by decide +kernel) (by decide +kernel) (by decide +kernel)
theorem allAtoms_all (ts : List Jvm.Cond) (a : Array Jvm.Value) (st : Jvm.State) : (allAtoms ts).before a st = ts.all (fun c => c.before a st) := by
  induction ts with
  | nil => rfl
  | cons c t ih =>
    show (Jvm.Cond.and c (allAtoms t)).before a st = _
    rw [Jvm.Cond.before_and, ih, List.all_cons]
def words1 : List Jvm.Cond := Jvm.Cond.code x code maxLocals ret :: tables_1
/-- a 'code' word, met by the world's own term for the bytes: nothing is compared byte by byte -/
theorem code_word {y : MethodName} {bytes : ByteArray} {mx : Nat} {rt : Option FieldType} {a : Array Value} {s : State} {m : MethodId} {meth : Method} {c : Code} (h1 : s.methodNamed? y = some m) (h2 : s.vm.method? m = some meth) (h3 : meth.code = some c) (h4 : c.code = bytes)
    (h5 : (c.maxLocals == mx && c.exceptionTable.isEmpty && decide (c.maxStack ≤ mostOperands) && decide (meth.sig.returnType = rt) && !meth.locks && decide (parseMethodDescriptor y.desc = some meth.sig)) = true) : (Jvm.Cond.code y bytes mx rt).before a s = true := by
  simp only [Bool.and_eq_true, beq_iff_eq, Bool.not_eq_true', decide_eq_true_eq] at h5
  obtain ⟨⟨⟨⟨⟨g1, g2⟩, g3⟩, g4⟩, g5⟩, g6⟩ := h5
  simp [Cond.before, Cond.holds, Cond.value, h1, h2, h3, h4, g1, g2, g3, g4, g5, g6]
def isCode : Jvm.Cond → Bool
  | .code _ _ _ _ => true
  | _ => false
theorem all_split {L : List Jvm.Cond} {P : Jvm.Cond → Bool} (h1 : L.all (fun c => isCode c || P c) = true) (h2 : ∀ c ∈ L.filter isCode, P c = true) : L.all P = true := by
  refine List.all_eq_true.mpr fun c hc => ?_
  have h := List.all_eq_true.mp h1 c hc
  rcases Bool.eq_false_or_eq_true (isCode c) with hi | hi
  · exact h2 c (List.mem_filter.mpr ⟨hc, hi⟩)
  · simpa [hi] using h
set_option maxRecDepth 65536 in
theorem w_c0 : (Jvm.Cond.code x code maxLocals ret).before args0 about1 = true := code_word (m := ⟨1, 1⟩) (meth := k1m1) (c := k1c1) (by decide +kernel) rfl rfl rfl (by decide +kernel)
set_option maxRecDepth 65536 in
theorem w_c1 : (Jvm.Cond.code ({ cls := "com/example/decompose/decompose/engine/Binder", name := "substitute", desc := "([I[I)[I" } : Jvm.MethodName) prog_4_method_6_code (4 : Nat) (Option.some (Jvm.ClassFile.FieldType.array Jvm.ClassFile.FieldType.int))).before args0 about1 = true := code_word (m := ⟨2, 0⟩) (meth := k2m0) (c := k2c0) (by decide +kernel) rfl rfl rfl (by decide +kernel)
set_option maxRecDepth 65536 in
theorem w_c2 : (Jvm.Cond.code ({ cls := "com/example/decompose/decompose/engine/BinderSubstitutePinLaw", name := "code", desc := "(I)I" } : Jvm.MethodName) method_3_code (1 : Nat) (Option.some Jvm.ClassFile.FieldType.int)).before args0 about1 = true := code_word (m := ⟨1, 2⟩) (meth := k1m2) (c := k1c2) (by decide +kernel) rfl rfl rfl (by decide +kernel)
set_option maxRecDepth 65536 in
theorem w_c3 : (Jvm.Cond.code ({ cls := "com/example/decompose/decompose/engine/BinderSubstitutePinLaw", name := "expect", desc := "(IIII)I" } : Jvm.MethodName) method_4_code (5 : Nat) (Option.some Jvm.ClassFile.FieldType.int)).before args0 about1 = true := code_word (m := ⟨1, 3⟩) (meth := k1m3) (c := k1c3) (by decide +kernel) rfl rfl rfl (by decide +kernel)
def codes1 : List Jvm.Cond := [Jvm.Cond.code x code maxLocals ret, Jvm.Cond.code ({ cls := "com/example/decompose/decompose/engine/Binder", name := "substitute", desc := "([I[I)[I" } : Jvm.MethodName) prog_4_method_6_code (4 : Nat) (Option.some (Jvm.ClassFile.FieldType.array Jvm.ClassFile.FieldType.int)), Jvm.Cond.code ({ cls := "com/example/decompose/decompose/engine/BinderSubstitutePinLaw", name := "code", desc := "(I)I" } : Jvm.MethodName) method_3_code (1 : Nat) (Option.some Jvm.ClassFile.FieldType.int), Jvm.Cond.code ({ cls := "com/example/decompose/decompose/engine/BinderSubstitutePinLaw", name := "expect", desc := "(IIII)I" } : Jvm.MethodName) method_4_code (5 : Nat) (Option.some Jvm.ClassFile.FieldType.int)]
set_option maxRecDepth 65536 in
theorem codes_eq : words1.filter isCode = codes1 := rfl
theorem w_codes : ∀ c ∈ words1.filter isCode, c.before args0 about1 = true := by
  rw [codes_eq]
  intro c hc
  simp only [codes1, List.mem_cons, List.not_mem_nil, or_false] at hc
  rcases hc with rfl | rfl | rfl | rfl
  · exact w_c0
  · exact w_c1
  · exact w_c2
  · exact w_c3
set_option maxRecDepth 65536 in
theorem w_t1 : words1.all (fun c => isCode c || c.before args0 about1) = true := by decide +kernel
theorem w_tables : (allAtoms (Jvm.Cond.code x code maxLocals ret :: tables_1)).before args0 about1 = true := by
  rw [allAtoms_all]
  show words1.all (fun c => c.before args0 about1) = true
  refine all_split ?_ w_codes
  rw [w_t1]
set_option maxRecDepth 65536 in
theorem w_case : (Jvm.Cond.and given_1 narrow_1).before args0 about1 = true := by decide +kernel
theorem w_applies : (headSpec (Jvm.Cond.code x code maxLocals ret :: tables_1) room_1).applies x e0.platform about1 = true :=
  (Spec.applies_iff w_frames).mpr ⟨w_running, w_runnable, w_alone, w_named, w_hears, w_ripe, w_room, w_tables⟩
theorem atStart : AtStart classFile x code maxLocals ret World_1 tables_1 room_1 Calls_1 rest_1 Pre_1 launch0 p0 e0 about1 theMethod args0 below0 :=
  ⟨lists_1, trivial, launch0.admits_env _ _ _, launch0.least_env, fairChoices_fair.cas, fairChoices_fair.clock, w_frames, w_args, w_heap, w_applies, trivial, trivial, w_case⟩
end start1
theorem witness_1 : WitnessClaimed_1 := ⟨start1.p0, start1.e0, start1.about1, start1.theMethod, start1.args0, start1.below0, start1.atStart⟩
end Jvm.Pilot.@@N@@
